/-
  FnRatInts holds for every input.
-/
import Derived.Test.YtapofoipfdjfhaaIn
namespace Go.Proofs.Ytapofoipfdjfhaa.fnRatInts
open Go.RowKit Go.Proofs.YtapofoipfdjfhaaW.PrintWords Go.Proofs.YtapofoipfdjfhaaW.PrintLast Go.Proofs.YtapofoipfdjfhaaW.PrintMore Go.Proofs.Ytapofoipfdjfhaa.Dig Go.Proofs.Ytapofoipfdjfhaa.Sp
set_option linter.unusedVariables false
set_option linter.unusedSimpArgs false

set_option maxHeartbeats 3200000 in
set_option maxRecDepth 100000 in
theorem walk (a : Int) (ha : (Lit.int .i64 a).wf = true) (b : Int) (hb : (Lit.int .u64 b).wf = true) (n : Bool) (v : Value) (l : List Int) (w : World) (hv : InInts .u64 w v l) :
    Calls Try.prog 4 #[.int .i64 a, .int .u64 b, .agg #[.bool n, v]] w fun e w' => e = .returned (.bool true) ∧ Below w.heap.size w w' := by
  obtain ⟨A, c, rfl, h1, h2, h3⟩ := ws_in hv
  have HA := Aside0.mk ha
  have HU := Aside0.mk (wf_u64 hb)
  have hbx := below_alloc (Below.refl w.heap.size w) (.cells #[.bool n, .slice A l.length c] 24)
  have HX := Aside0.mk ((show Ws w (.slice A l.length c) l from ⟨A, c, rfl, h1, h2, h3⟩).below hbx)
  clear ha hb hv h1 h2 h3 hbx
  have hu := Try.underlying24
  have hbel : Below w.heap.size w ((w.alloc (.cells #[.bool n, .slice A l.length c] 24)).alloc (.cells #[.bool n, .slice A l.length c] 24)) := below_alloc (below_alloc (Below.refl _ _) _) _
  have HBEL := Aside0.mk hbel
  clear hbel
  by_cases hbig : 10 < l.length
  · by_cases hbb : 2147483647 < l.length
    · go_enter Try.func4, Try.ntmps4
      go_wp2_with ((fail_if_success go_at_call 8); go_in)
      go_ret
      exact ⟨rfl, HBEL.out⟩
    · go_enter Try.func4, Try.ntmps4
      go_wp2_with ((fail_if_success go_at_call 8); go_in)
      go_ret
      exact ⟨rfl, HBEL.out⟩
  · have hbb : ¬ 2147483647 < l.length := by omega
    have HL := Aside0.mk (show ev BW l < Lim from words_Lim (by obtain ⟨_, _, _, _, _, h⟩ := HX.out; exact h) (by omega))
    have HLL := Aside0.mk (show l.length ≤ 10 by omega)
    have HX2 := Aside0.mk (HX.out.below (below_alloc (Below.refl _ _) (.cells #[.bool n, .slice A l.length c] 24)))
    go_enter Try.func4, Try.ntmps4
    go_wp2_with ((fail_if_success go_at_call 8); go_in)
    refine (small_s 1 (by omega) (by omega) _).mono ?_
    rintro e w1 ⟨Ao, m, co, rfl, hv, hb⟩
    have HO := Aside0.mk hv
    have HX3 := Aside0.mk (HX2.out.below hb)
    have HB := Aside0.mk (below_step HBEL.out hb)
    have k0 := hp_below (show hp _ w.heap.size = some (.cells #[.bool n, .slice A l.length c] 24 (0, 0)) from (by simp (disch := first | omega | (simp; omega) | (simp; done) | fail) [hp_new, hp_old, hp_here, hp_other, setObj_cells, hp_drew, hp_drewN])) hb
    have K0 := Aside0.mk k0
    obtain ⟨c0, c1, _, _⟩ := blk2 k0
    have hs := hp_lt k0
    clear hb k0 HX HX2 HBEL hv
    go_wp2_with ((fail_if_success go_at_call 9); go_in)
    refine (of_s _ l w1 HX3.out (by have := HLL.out; omega)).mono ?_
    rintro e w2 ⟨Am, m2, cm, rfl, hv, hb⟩
    have HM := Aside0.mk hv
    replace HO := Aside0.mk (HO.out.below hb)
    replace HX3 := Aside0.mk (HX3.out.below hb)
    replace HB := Aside0.mk (below_step HB.out hb)
    have k0 := hp_below K0.out hb
    obtain ⟨c0, c1, _, _⟩ := blk2 k0
    have hs := hp_lt k0
    clear hb k0 K0 hv
    have HNL := Aside0.mk (show (a.natAbs : Int) < Lim from word_Lim (by have := wf_i64 HA.out; omega))
    have HSG := Aside0.mk (show decide (a < 0) = (decide (a < 0) && decide (0 < (a.natAbs : Int))) from by
      by_cases h : a < 0
      · rw [decide_eq_true h, decide_eq_true (show 0 < (a.natAbs : Int) by omega)]; rfl
      · rw [decide_eq_false h]; rfl)
    have HO0 := Aside0.mk (HO.out.below (below_drew (Below.refl _ _)))
    have HM0 := Aside0.mk (HM.out.below (below_drew (Below.refl _ _)))
    have HX0 := Aside0.mk (HX3.out.below (below_drew (Below.refl _ _)))
    have HB0 := Aside0.mk (below_drew HB.out)
    clear HO HM HX3 HB
    go_wp2_with (fail)
    refine start_ (n := 27) (S := fun w' => w'.cell? ⟨w.heap.size, 0, none⟩ = some (.bool n) ∧ w'.cell? ⟨w.heap.size, 1, none⟩ = some (.slice A l.length c)) (ds := []) #[false, false, false, false, false, false, false, false, false, false, false, false, false, false, false, false, false, false, false, false, false, false, false, false, false, false, false] (by kernel_rfl) rfl rfl ⟨(by go_simp), (by go_simp)⟩ (fun hHeld => ?_)
    refine pure_ (i := 0) (N := some 20) (v := ?_) (a' := ?_) #[true, false, false, false, false, false, false, false, false, false, false, false, false, false, false, false, false, false, false, false, false, false, false, false, false, false, false] rfl rfl (by kernel_rfl) (fun _ _ _ h => h) (Or.inl ⟨by rfl, ?_⟩) ?_ ?_
    rotate_left
    · intro w'
      go_simp
      with_reducible rfl
    rotate_left
    · simp only [Act.put, List.setIfInBounds_toArray, List.set_cons_zero, List.set_cons_succ, i64_w, i32_w]
      rfl
    refine pure_ (i := 2) (N := some 22) (v := ?_) (a' := ?_) #[true, false, true, false, false, false, false, false, false, false, false, false, false, false, false, false, false, false, false, false, false, false, false, false, false, false, false] rfl rfl (by kernel_rfl) (fun _ _ _ h => h) (Or.inl ⟨by rfl, ?_⟩) ?_ ?_
    rotate_left
    · intro w'
      go_simp
      with_reducible rfl
    rotate_left
    · simp only [Act.put, List.setIfInBounds_toArray, List.set_cons_zero, List.set_cons_succ, i64_w, i32_w]
      rfl
    refine pure_ (i := 3) (N := some 23) (v := ?_) (a' := ?_) #[true, false, true, true, false, false, false, false, false, false, false, false, false, false, false, false, false, false, false, false, false, false, false, false, false, false, false] rfl rfl (by kernel_rfl) (fun _ _ _ h => h) (Or.inl ⟨by rfl, ?_⟩) ?_ ?_
    rotate_left
    · intro w'
      go_simp
      with_reducible rfl
    rotate_left
    · simp only [Act.put, List.setIfInBounds_toArray, List.set_cons_zero, List.set_cons_succ, i64_w, i32_w]
      rfl
    refine pure_ (i := 4) (N := some 24) (v := ?_) (a' := ?_) #[true, false, true, true, true, false, false, false, false, false, false, false, false, false, false, false, false, false, false, false, false, false, false, false, false, false, false] rfl rfl (by kernel_rfl) (fun _ _ _ h => h) (Or.inl ⟨by rfl, ?_⟩) ?_ ?_
    rotate_left
    · intro w'
      go_simp
      with_reducible rfl
    rotate_left
    · simp only [Act.put, List.setIfInBounds_toArray, List.set_cons_zero, List.set_cons_succ, i64_w, i32_w]
      rfl
    refine pure_ (i := 6) (N := some 26) (v := ?_) (a' := ?_) #[true, false, true, true, true, false, true, false, false, false, false, false, false, false, false, false, false, false, false, false, false, false, false, false, false, false, false] rfl rfl (by kernel_rfl) (fun _ _ _ h => h) (Or.inl ⟨by rfl, ?_⟩) ?_ ?_
    rotate_left
    · intro w'
      go_simp
      with_reducible rfl
    rotate_left
    · simp only [Act.put, List.setIfInBounds_toArray, List.set_cons_zero, List.set_cons_succ, i64_w, i32_w]
      rfl
    refine one_ (i := 1) (N := some 21) #[true, true, true, true, true, false, true, false, false, false, false, false, false, false, false, false, false, false, false, false, false, false, false, false, false, false, false] rfl rfl (by kernel_rfl) (by decide) (fun K hK => ?_)
    refine goes_ Try.func11 (by kernel_rfl) rfl #[.int .i64 a] (by rfl) rfl rfl (by simp only [List.map_toArray, List.map_cons, List.map_nil]; rfl) ?_
    with_reducible refine (ratInt64_c a HA.out _).mono ?_
    rintro e w3 ⟨A1, m1, c1, B1, n1, d1, rfl, hx, hy, hb1⟩
    refine ⟨_, rfl, ?_⟩
    have HP := Aside0.mk hx
    have HQ := Aside0.mk hy
    clear hx hy
    replace HO0 := Aside0.mk (HO0.out.below hb1)
    replace HM0 := Aside0.mk (HM0.out.below hb1)
    replace HX0 := Aside0.mk (HX0.out.below hb1)
    replace HB0 := Aside0.mk (below_step HB0.out hb1)
    have q0 := (hb1.cell (p := ⟨w.heap.size, 0, none⟩) (World.block_lt_of_cell? _ _ hHeld.1)).trans hHeld.1
    have q1 := (hb1.cell (p := ⟨w.heap.size, 1, none⟩) (World.block_lt_of_cell? _ _ hHeld.2)).trans hHeld.2
    clear hb1
    refine hK.out _ _ ⟨q0, q1⟩ (fun hHeld => ?_)
    clear hK K
    refine norm_ (a' := ?_) ?_ ?_
    rotate_left
    · show Act.put _ (some 21) _ = _
      simp only [Act.put, List.setIfInBounds_toArray, List.set_cons_zero, List.set_cons_succ, i64_w, i32_w]
      rfl
    refine one_ (i := 5) (N := some 25) #[true, true, true, true, true, true, true, false, false, false, false, false, false, false, false, false, false, false, false, false, false, false, false, false, false, false, false] rfl rfl (by kernel_rfl) (by decide) (fun K hK => ?_)
    refine goes_ Try.func12 (by kernel_rfl) rfl #[.int .i64 a] (by rfl) rfl rfl (by simp only [List.map_toArray, List.map_cons, List.map_nil]; rfl) ?_
    with_reducible refine (whole_c a HA.out _).mono ?_
    rintro e w4 ⟨A2, m2', c2, rfl, hx, hb1⟩
    refine ⟨_, rfl, ?_⟩
    have HN := Aside0.mk hx
    clear hx
    replace HP := Aside0.mk (HP.out.below hb1)
    replace HQ := Aside0.mk (HQ.out.below hb1)
    replace HO0 := Aside0.mk (HO0.out.below hb1)
    replace HM0 := Aside0.mk (HM0.out.below hb1)
    replace HX0 := Aside0.mk (HX0.out.below hb1)
    replace HB0 := Aside0.mk (below_step HB0.out hb1)
    have q0 := (hb1.cell (p := ⟨w.heap.size, 0, none⟩) (World.block_lt_of_cell? _ _ hHeld.1)).trans hHeld.1
    have q1 := (hb1.cell (p := ⟨w.heap.size, 1, none⟩) (World.block_lt_of_cell? _ _ hHeld.2)).trans hHeld.2
    clear hb1
    refine hK.out _ _ ⟨q0, q1⟩ (fun hHeld => ?_)
    clear hK K
    refine norm_ (a' := ?_) ?_ ?_
    rotate_left
    · show Act.put _ (some 25) _ = _
      simp only [Act.put, List.setIfInBounds_toArray, List.set_cons_zero, List.set_cons_succ, i64_w, i32_w]
      rfl
    refine one_ (i := 7) (N := some 27) #[true, true, true, true, true, true, true, true, false, false, false, false, false, false, false, false, false, false, false, false, false, false, false, false, false, false, false] rfl rfl (by kernel_rfl) (by decide) (fun K hK => ?_)
    refine goes_ Try.func10 (by kernel_rfl) rfl #[.agg #[.bool (decide (a < 0)), .slice A1 m1 c1, .slice B1 n1 d1], .bool (decide (a < 0)), .slice A2 m2' c2, .slice Ao m co] (by rfl) rfl rfl (by simp only [List.map_toArray, List.map_cons, List.map_nil]; rfl) ?_
    with_reducible refine (is1_c _ _ _ _ _ _ _ _ _ _ _ _ _ _ _ _ HP.out HQ.out HN.out HO0.out HNL.out HSG.out).mono ?_
    rintro e w5 ⟨rfl, hb1⟩
    refine ⟨_, rfl, ?_⟩
    clear HP HQ HN
    replace HO0 := Aside0.mk (HO0.out.below hb1)
    replace HM0 := Aside0.mk (HM0.out.below hb1)
    replace HX0 := Aside0.mk (HX0.out.below hb1)
    replace HB0 := Aside0.mk (below_step HB0.out hb1)
    have q0 := (hb1.cell (p := ⟨w.heap.size, 0, none⟩) (World.block_lt_of_cell? _ _ hHeld.1)).trans hHeld.1
    have q1 := (hb1.cell (p := ⟨w.heap.size, 1, none⟩) (World.block_lt_of_cell? _ _ hHeld.2)).trans hHeld.2
    clear hb1
    refine hK.out _ _ ⟨q0, q1⟩ (fun hHeld => ?_)
    clear hK K
    refine norm_ (a' := ?_) ?_ ?_
    rotate_left
    · show Act.put _ (some 27) _ = _
      simp only [Act.put, List.setIfInBounds_toArray, List.set_cons_zero, List.set_cons_succ, i64_w, i32_w]
      rfl
    refine pure_ (i := 8) (N := some 28) (v := ?_) (a' := ?_) #[true, true, true, true, true, true, true, true, true, false, false, false, false, false, false, false, false, false, false, false, false, false, false, false, false, false, false] rfl rfl (by kernel_rfl) (fun _ _ _ h => h) (Or.inl ⟨by rfl, ?_⟩) ?_ ?_
    rotate_left
    · intro w'
      go_simp
      with_reducible rfl
    rotate_left
    · simp only [Act.put, List.setIfInBounds_toArray, List.set_cons_zero, List.set_cons_succ, i64_w, i32_w]
      rfl
    refine pure_ (i := 9) (N := some 29) (v := ?_) (a' := ?_) #[true, true, true, true, true, true, true, true, true, true, false, false, false, false, false, false, false, false, false, false, false, false, false, false, false, false, false] rfl rfl (by kernel_rfl) (fun _ _ _ h => h) (Or.inl ⟨by rfl, ?_⟩) ?_ ?_
    rotate_left
    · intro w'
      go_simp
      with_reducible rfl
    rotate_left
    · simp only [Act.put, List.setIfInBounds_toArray, List.set_cons_zero, List.set_cons_succ, i64_w, i32_w]
      rfl
    refine pure_ (i := 11) (N := some 31) (v := ?_) (a' := ?_) #[true, true, true, true, true, true, true, true, true, true, false, true, false, false, false, false, false, false, false, false, false, false, false, false, false, false, false] rfl rfl (by kernel_rfl) (fun _ _ _ h => h) (Or.inl ⟨by rfl, ?_⟩) ?_ ?_
    rotate_left
    · intro w'
      go_simp
      with_reducible rfl
    rotate_left
    · simp only [Act.put, List.setIfInBounds_toArray, List.set_cons_zero, List.set_cons_succ, i64_w, i32_w]
      rfl
    refine pure_ (i := 14) (N := some 34) (v := ?_) (a' := ?_) #[true, true, true, true, true, true, true, true, true, true, false, true, false, false, true, false, false, false, false, false, false, false, false, false, false, false, false] rfl rfl (by kernel_rfl) (fun _ _ _ h => h) (Or.inl ⟨by rfl, ?_⟩) ?_ ?_
    rotate_left
    · intro w'
      go_simp
      with_reducible rfl
    rotate_left
    · simp only [Act.put, List.setIfInBounds_toArray, List.set_cons_zero, List.set_cons_succ, i64_w, i32_w]
      rfl
    refine join_ (σ := Option Addr × Nat × Nat × Option Addr × Nat × Nat × Nat) 13 #[true, true, true, true, true, true, true, true, true, true, true, true, true, false, true, false, false, false, false, false, false, false, false, false, false, false, false] (fun s => [(30, .agg #[.bool false, .slice s.1 s.2.1 s.2.2.1, .slice s.2.2.2.1 s.2.2.2.2.1 s.2.2.2.2.2.1]), (32, .slice (some ⟨s.2.2.2.2.2.2, 0, none⟩) 1 1)]) (fun s w' => Wd w' (.slice s.1 s.2.1 s.2.2.1) b ∧ Wd w' (.slice s.2.2.2.1 s.2.2.2.2.1 s.2.2.2.2.2.1) 1 ∧ hp w' s.2.2.2.2.2.2 = some (.cells #[.int .u64 b] 27 (0, 0)) ∧ Dg w' (.slice Ao m co) 1 ∧ Dg w' (.slice Am m2 cm) (ev BW l) ∧ Ws w' (.slice A l.length c) l ∧ Below w.heap.size w w' ∧ w'.cell? ⟨w.heap.size, 0, none⟩ = some (.bool n) ∧ w'.cell? ⟨w.heap.size, 1, none⟩ = some (.slice A l.length c)) ?_ ?_
    rotate_left
    · intro hCont
      refine two_ (i := 10) (j := 12) (Ni := some 30) (Nj := some 32) #[true, true, true, true, true, true, true, true, true, true, true, true, false, false, true, false, false, false, false, false, false, false, false, false, false, false, false] #[true, true, true, true, true, true, true, true, true, true, false, true, true, false, true, false, false, false, false, false, false, false, false, false, false, false, false] rfl rfl rfl rfl (by kernel_rfl) (by decide) (by decide) (fun K hK => ?_) (fun K hK => ?_)
      · skip
        refine goes_ Try.func13 (by kernel_rfl) rfl #[.int .u64 b] (by rfl) rfl rfl (by simp only [List.map_toArray, List.map_cons, List.map_nil]; rfl) ?_
        with_reducible refine (ratUint64_c b HU.out.1 HU.out.2 _).mono ?_
        rintro e w6 ⟨A3, m3, c3, B3, n3, d3, rfl, hx, hy, hb1⟩
        refine ⟨_, rfl, ?_⟩
        have HP := Aside0.mk hx
        have HQ := Aside0.mk hy
        clear hx hy
        replace HO0 := Aside0.mk (HO0.out.below hb1)
        replace HM0 := Aside0.mk (HM0.out.below hb1)
        replace HX0 := Aside0.mk (HX0.out.below hb1)
        replace HB0 := Aside0.mk (below_step HB0.out hb1)
        have q0 := (hb1.cell (p := ⟨w.heap.size, 0, none⟩) (World.block_lt_of_cell? _ _ hHeld.1)).trans hHeld.1
        have q1 := (hb1.cell (p := ⟨w.heap.size, 1, none⟩) (World.block_lt_of_cell? _ _ hHeld.2)).trans hHeld.2
        clear hb1
        refine hK.out _ _ ⟨q0, q1⟩ (fun hHeld => ?_)
        clear hK K
        refine norm_ (a' := ?_) ?_ ?_
        rotate_left
        · show Act.put _ (some 30) _ = _
          simp only [Act.put, List.setIfInBounds_toArray, List.set_cons_zero, List.set_cons_succ, i64_w, i32_w]
          rfl
        refine one_ (i := 12) (N := some 32) #[true, true, true, true, true, true, true, true, true, true, true, true, true, false, true, false, false, false, false, false, false, false, false, false, false, false, false] rfl rfl (by kernel_rfl) (by decide) (fun K hK => ?_)
        refine value_ (w1 := ?_) (v := ?_) (by rfl) rfl ?_ ?_
        rotate_left 2
        · go_simp
          constructor
          · rfl
          · rfl
        have hb1 : Below w6.heap.size w6 (w6.alloc (.cells #[.int .u64 b] 27)) := below_alloc (Below.refl _ _) _
        have KW := Aside0.mk (show hp (w6.alloc (.cells #[.int .u64 b] 27)) w6.heap.size = some (.cells #[.int .u64 b] 27 (0, 0)) from by simp [hp_new])
        replace HP := Aside0.mk (HP.out.below hb1)
        replace HQ := Aside0.mk (HQ.out.below hb1)
        replace HO0 := Aside0.mk (HO0.out.below hb1)
        replace HM0 := Aside0.mk (HM0.out.below hb1)
        replace HX0 := Aside0.mk (HX0.out.below hb1)
        replace HB0 := Aside0.mk (below_step HB0.out hb1)
        have q0 := (hb1.cell (p := ⟨w.heap.size, 0, none⟩) (World.block_lt_of_cell? _ _ hHeld.1)).trans hHeld.1
        have q1 := (hb1.cell (p := ⟨w.heap.size, 1, none⟩) (World.block_lt_of_cell? _ _ hHeld.2)).trans hHeld.2
        clear hb1
        refine hK.out _ _ ⟨q0, q1⟩ (fun hHeld => ?_)
        clear hK K
        refine norm_ (a' := ?_) ?_ ?_
        rotate_left
        · show Act.put _ (some 32) _ = _
          simp only [Act.put, List.setIfInBounds_toArray, List.set_cons_zero, List.set_cons_succ, i64_w, i32_w]
          rfl
        exact norm_ (by simp only [putAll, Act.put, List.setIfInBounds_toArray, List.set_cons_zero, List.set_cons_succ]) (hCont (A3, m3, c3, B3, n3, d3, w6.heap.size) _ ⟨HP.out, HQ.out, KW.out, HO0.out, HM0.out, HX0.out, HB0.out, hHeld.1, hHeld.2⟩)
      · skip
        refine value_ (w1 := ?_) (v := ?_) (by rfl) rfl ?_ ?_
        rotate_left 2
        · go_simp
          constructor
          · rfl
          · rfl
        have hb1 : Below w5.heap.size w5 (w5.alloc (.cells #[.int .u64 b] 27)) := below_alloc (Below.refl _ _) _
        have KW := Aside0.mk (show hp (w5.alloc (.cells #[.int .u64 b] 27)) w5.heap.size = some (.cells #[.int .u64 b] 27 (0, 0)) from by simp [hp_new])
        replace HO0 := Aside0.mk (HO0.out.below hb1)
        replace HM0 := Aside0.mk (HM0.out.below hb1)
        replace HX0 := Aside0.mk (HX0.out.below hb1)
        replace HB0 := Aside0.mk (below_step HB0.out hb1)
        have q0 := (hb1.cell (p := ⟨w.heap.size, 0, none⟩) (World.block_lt_of_cell? _ _ hHeld.1)).trans hHeld.1
        have q1 := (hb1.cell (p := ⟨w.heap.size, 1, none⟩) (World.block_lt_of_cell? _ _ hHeld.2)).trans hHeld.2
        clear hb1
        refine hK.out _ _ ⟨q0, q1⟩ (fun hHeld => ?_)
        clear hK K
        refine norm_ (a' := ?_) ?_ ?_
        rotate_left
        · show Act.put _ (some 32) _ = _
          simp only [Act.put, List.setIfInBounds_toArray, List.set_cons_zero, List.set_cons_succ, i64_w, i32_w]
          rfl
        refine one_ (i := 10) (N := some 30) #[true, true, true, true, true, true, true, true, true, true, true, true, true, false, true, false, false, false, false, false, false, false, false, false, false, false, false] rfl rfl (by kernel_rfl) (by decide) (fun K hK => ?_)
        refine goes_ Try.func13 (by kernel_rfl) rfl #[.int .u64 b] (by rfl) rfl rfl (by simp only [List.map_toArray, List.map_cons, List.map_nil]; rfl) ?_
        with_reducible refine (ratUint64_c b HU.out.1 HU.out.2 _).mono ?_
        rintro e w6 ⟨A3, m3, c3, B3, n3, d3, rfl, hx, hy, hb1⟩
        refine ⟨_, rfl, ?_⟩
        have HP := Aside0.mk hx
        have HQ := Aside0.mk hy
        clear hx hy
        replace KW := Aside0.mk (hp_below KW.out hb1)
        replace HO0 := Aside0.mk (HO0.out.below hb1)
        replace HM0 := Aside0.mk (HM0.out.below hb1)
        replace HX0 := Aside0.mk (HX0.out.below hb1)
        replace HB0 := Aside0.mk (below_step HB0.out hb1)
        have q0 := (hb1.cell (p := ⟨w.heap.size, 0, none⟩) (World.block_lt_of_cell? _ _ hHeld.1)).trans hHeld.1
        have q1 := (hb1.cell (p := ⟨w.heap.size, 1, none⟩) (World.block_lt_of_cell? _ _ hHeld.2)).trans hHeld.2
        clear hb1
        refine hK.out _ _ ⟨q0, q1⟩ (fun hHeld => ?_)
        clear hK K
        refine norm_ (a' := ?_) ?_ ?_
        rotate_left
        · show Act.put _ (some 30) _ = _
          simp only [Act.put, List.setIfInBounds_toArray, List.set_cons_zero, List.set_cons_succ, i64_w, i32_w]
          rfl
        exact norm_ (by simp only [putAll, Act.put, List.setIfInBounds_toArray, List.set_cons_zero, List.set_cons_succ]) (hCont (A3, m3, c3, B3, n3, d3, w5.heap.size) _ ⟨HP.out, HQ.out, KW.out, HO0.out, HM0.out, HX0.out, HB0.out, hHeld.1, hHeld.2⟩)
    rintro ⟨A3, m3, c3, B3, n3, d3, g⟩ w8 ⟨hx, hy, kw, ho, hm, hx0, hb0, s0, s1⟩
    have hHeld := And.intro s0 s1
    clear HO0 HM0 HX0 HB0 s0 s1
    have HP : Aside0 (Wd w8 (.slice A3 m3 c3) b) := ⟨hx⟩
    have HQ : Aside0 (Wd w8 (.slice B3 n3 d3) 1) := ⟨hy⟩
    have KW : Aside0 (hp w8 g = some (.cells #[.int .u64 b] 27 (0, 0))) := ⟨kw⟩
    have HO0 := Aside0.mk ho
    have HM0 := Aside0.mk hm
    have HX0 := Aside0.mk hx0
    have HB0 := Aside0.mk hb0
    clear hx hy kw ho hm hx0 hb0
    refine norm_ (a' := ?_) ?_ ?_
    rotate_left
    · simp only [putAll, Act.put, List.setIfInBounds_toArray, List.set_cons_zero, List.set_cons_succ]
      rfl
    refine one_ (i := 13) (N := some 33) #[true, true, true, true, true, true, true, true, true, true, true, true, true, true, true, false, false, false, false, false, false, false, false, false, false, false, false] rfl rfl (by kernel_rfl) (by decide) (fun K hK => ?_)
    refine goes_ Try.func9 (by kernel_rfl) rfl #[.slice (some ⟨g, 0, none⟩) 1 1] (by rfl) rfl rfl (by simp only [List.map_toArray, List.map_cons, List.map_nil]; rfl) ?_
    with_reducible refine (of1_s g _ b _ KW.out HU.out.1 HU.out.2).mono ?_
    rintro e w9 ⟨A4, m4, c4, rfl, hx, hb1⟩
    refine ⟨_, rfl, ?_⟩
    have HN := Aside0.mk hx
    clear hx KW
    replace HP := Aside0.mk (HP.out.below hb1)
    replace HQ := Aside0.mk (HQ.out.below hb1)
    replace HO0 := Aside0.mk (HO0.out.below hb1)
    replace HM0 := Aside0.mk (HM0.out.below hb1)
    replace HX0 := Aside0.mk (HX0.out.below hb1)
    replace HB0 := Aside0.mk (below_step HB0.out hb1)
    have q0 := (hb1.cell (p := ⟨w.heap.size, 0, none⟩) (World.block_lt_of_cell? _ _ hHeld.1)).trans hHeld.1
    have q1 := (hb1.cell (p := ⟨w.heap.size, 1, none⟩) (World.block_lt_of_cell? _ _ hHeld.2)).trans hHeld.2
    clear hb1
    refine hK.out _ _ ⟨q0, q1⟩ (fun hHeld => ?_)
    clear hK K
    refine norm_ (a' := ?_) ?_ ?_
    rotate_left
    · show Act.put _ (some 33) _ = _
      simp only [Act.put, List.setIfInBounds_toArray, List.set_cons_zero, List.set_cons_succ, i64_w, i32_w]
      rfl
    refine one_ (i := 15) (N := some 35) #[true, true, true, true, true, true, true, true, true, true, true, true, true, true, true, true, false, false, false, false, false, false, false, false, false, false, false] rfl rfl (by kernel_rfl) (by decide) (fun K hK => ?_)
    refine goes_ Try.func10 (by kernel_rfl) rfl #[.agg #[.bool false, .slice A3 m3 c3, .slice B3 n3 d3], .bool false, .slice A4 m4 c4, .slice Ao m co] (by rfl) rfl rfl (by simp only [List.map_toArray, List.map_cons, List.map_nil]; rfl) ?_
    with_reducible refine (is1_c _ _ _ _ _ _ _ _ _ _ _ _ _ _ b _ HP.out HQ.out HN.out HO0.out (word_Lim HU.out.2) (by simp)).mono ?_
    rintro e w10 ⟨rfl, hb1⟩
    refine ⟨_, rfl, ?_⟩
    clear HP HQ HN
    replace HO0 := Aside0.mk (HO0.out.below hb1)
    replace HM0 := Aside0.mk (HM0.out.below hb1)
    replace HX0 := Aside0.mk (HX0.out.below hb1)
    replace HB0 := Aside0.mk (below_step HB0.out hb1)
    have q0 := (hb1.cell (p := ⟨w.heap.size, 0, none⟩) (World.block_lt_of_cell? _ _ hHeld.1)).trans hHeld.1
    have q1 := (hb1.cell (p := ⟨w.heap.size, 1, none⟩) (World.block_lt_of_cell? _ _ hHeld.2)).trans hHeld.2
    clear hb1
    refine hK.out _ _ ⟨q0, q1⟩ (fun hHeld => ?_)
    clear hK K
    refine norm_ (a' := ?_) ?_ ?_
    rotate_left
    · show Act.put _ (some 35) _ = _
      simp only [Act.put, List.setIfInBounds_toArray, List.set_cons_zero, List.set_cons_succ, i64_w, i32_w]
      rfl
    refine pure_ (i := 16) (N := some 36) (v := ?_) (a' := ?_) #[true, true, true, true, true, true, true, true, true, true, true, true, true, true, true, true, true, false, false, false, false, false, false, false, false, false, false] rfl rfl (by kernel_rfl) (fun _ _ _ h => h) (Or.inl ⟨by rfl, ?_⟩) ?_ ?_
    rotate_left
    · intro w'
      go_simp
      with_reducible rfl
    rotate_left
    · simp only [Act.put, List.setIfInBounds_toArray, List.set_cons_zero, List.set_cons_succ, i64_w, i32_w]
      rfl
    refine pure_ (i := 17) (N := some 37) (v := ?_) (a' := ?_) #[true, true, true, true, true, true, true, true, true, true, true, true, true, true, true, true, true, true, false, false, false, false, false, false, false, false, false] rfl rfl (by kernel_rfl) (fun _ _ _ h => h) (Or.inl ⟨by rfl, ?_⟩) ?_ ?_
    rotate_left
    · intro w'
      go_simp
      with_reducible rfl
    rotate_left
    · simp only [Act.put, List.setIfInBounds_toArray, List.set_cons_zero, List.set_cons_succ, i64_w, i32_w]
      rfl
    refine pure_ (i := 20) (N := some 40) (v := ?_) (a' := ?_) #[true, true, true, true, true, true, true, true, true, true, true, true, true, true, true, true, true, true, false, false, true, false, false, false, false, false, false] rfl rfl (by kernel_rfl) (fun _ _ _ h => h) (Or.inl ⟨by rfl, ?_⟩) ?_ ?_
    rotate_left
    · intro w'
      go_simp
      with_reducible rfl
    rotate_left
    · simp only [Act.put, List.setIfInBounds_toArray, List.set_cons_zero, List.set_cons_succ, i64_w, i32_w]
      rfl
    refine pure_ (i := 22) (N := some 42) (v := ?_) (a' := ?_) #[true, true, true, true, true, true, true, true, true, true, true, true, true, true, true, true, true, true, false, false, true, false, true, false, false, false, false] rfl rfl (by kernel_rfl) (fun _ _ _ h => h) (Or.inl ⟨by rfl, ?_⟩) ?_ ?_
    rotate_left
    · intro w'
      go_simp
      with_reducible rfl
    rotate_left
    · simp only [Act.put, List.setIfInBounds_toArray, List.set_cons_zero, List.set_cons_succ, i64_w, i32_w]
      rfl
    refine pure_ (i := 23) (N := some 43) (v := ?_) (a' := ?_) #[true, true, true, true, true, true, true, true, true, true, true, true, true, true, true, true, true, true, false, false, true, false, true, true, false, false, false] rfl rfl (by kernel_rfl) (fun _ _ _ h => h) (Or.inl ⟨by rfl, ?_⟩) ?_ ?_
    rotate_left
    · intro w'
      go_simp
      with_reducible rfl
    rotate_left
    · simp only [Act.put, List.setIfInBounds_toArray, List.set_cons_zero, List.set_cons_succ, i64_w, i32_w]
      rfl
    refine take_ (i := 18) (N := some 38) (v := ?_) (a' := ?_) #[true, true, true, true, true, true, true, true, true, true, true, true, true, true, true, true, true, true, true, false, true, false, true, true, false, false, false] rfl rfl (by kernel_rfl) (fun _ _ _ h => h) (Or.inl ⟨by rfl, ?_⟩) hHeld ?_ ?_
    rotate_left
    · rintro w' ⟨s0, s1⟩
      go_simp
      with_reducible rfl
    rotate_left
    · simp only [Act.put, List.setIfInBounds_toArray, List.set_cons_zero, List.set_cons_succ, i64_w, i32_w]
      rfl
    refine take_ (i := 21) (N := some 41) (v := ?_) (a' := ?_) #[true, true, true, true, true, true, true, true, true, true, true, true, true, true, true, true, true, true, true, false, true, true, true, true, false, false, false] rfl rfl (by kernel_rfl) (fun _ _ _ h => h) (Or.inl ⟨by rfl, ?_⟩) hHeld ?_ ?_
    rotate_left
    · rintro w' ⟨s0, s1⟩
      go_simp
      with_reducible rfl
    rotate_left
    · simp only [Act.put, List.setIfInBounds_toArray, List.set_cons_zero, List.set_cons_succ, i64_w, i32_w]
      rfl
    refine one_ (i := 19) (N := some 39) #[true, true, true, true, true, true, true, true, true, true, true, true, true, true, true, true, true, true, true, true, true, true, true, true, false, false, false] rfl rfl (by kernel_rfl) (by decide) (fun K hK => ?_)
    refine goes_ Try.func14 (by kernel_rfl) rfl #[.agg #[.bool n, .slice A l.length c]] (by rfl) rfl rfl (by simp only [List.map_toArray, List.map_cons, List.map_nil]; rfl) ?_
    with_reducible refine (ratInt_c n A l.length c l _ HX0.out (by have := HLL.out; omega)).mono ?_
    rintro e w11 ⟨A5, m5, c5, B5, n5, d5, rfl, hx, hy, hb1⟩
    refine ⟨_, rfl, ?_⟩
    have HP := Aside0.mk hx
    have HQ := Aside0.mk hy
    clear hx hy
    replace HO0 := Aside0.mk (HO0.out.below hb1)
    replace HM0 := Aside0.mk (HM0.out.below hb1)
    replace HX0 := Aside0.mk (HX0.out.below hb1)
    replace HB0 := Aside0.mk (below_step HB0.out hb1)
    have q0 := (hb1.cell (p := ⟨w.heap.size, 0, none⟩) (World.block_lt_of_cell? _ _ hHeld.1)).trans hHeld.1
    have q1 := (hb1.cell (p := ⟨w.heap.size, 1, none⟩) (World.block_lt_of_cell? _ _ hHeld.2)).trans hHeld.2
    clear hb1
    refine hK.out _ _ ⟨q0, q1⟩ (fun hHeld => ?_)
    clear hK K
    refine norm_ (a' := ?_) ?_ ?_
    rotate_left
    · show Act.put _ (some 39) _ = _
      simp only [Act.put, List.setIfInBounds_toArray, List.set_cons_zero, List.set_cons_succ, i64_w, i32_w]
      rfl
    refine one_ (i := 24) (N := some 44) #[true, true, true, true, true, true, true, true, true, true, true, true, true, true, true, true, true, true, true, true, true, true, true, true, true, false, false] rfl rfl (by kernel_rfl) (by decide) (fun K hK => ?_)
    refine goes_ Try.func10 (by kernel_rfl) rfl #[.agg #[.bool (n && decide (0 < ev BW l)), .slice A5 m5 c5, .slice B5 n5 d5], .bool n, .slice Am m2 cm, .slice Ao m co] (by rfl) rfl rfl (by simp only [List.map_toArray, List.map_cons, List.map_nil]; rfl) ?_
    with_reducible refine (is1_c _ _ _ _ _ _ _ _ _ _ _ _ _ _ (ev BW l) _ HP.out HQ.out HM0.out HO0.out HL.out rfl).mono ?_
    rintro e w12 ⟨rfl, hb1⟩
    refine ⟨_, rfl, ?_⟩
    replace HB0 := Aside0.mk (below_step HB0.out hb1)
    have q0 := (hb1.cell (p := ⟨w.heap.size, 0, none⟩) (World.block_lt_of_cell? _ _ hHeld.1)).trans hHeld.1
    have q1 := (hb1.cell (p := ⟨w.heap.size, 1, none⟩) (World.block_lt_of_cell? _ _ hHeld.2)).trans hHeld.2
    clear hb1
    refine hK.out _ _ ⟨q0, q1⟩ (fun hHeld => ?_)
    clear hK K
    refine norm_ (a' := ?_) ?_ ?_
    rotate_left
    · show Act.put _ (some 44) _ = _
      simp only [Act.put, List.setIfInBounds_toArray, List.set_cons_zero, List.set_cons_succ, i64_w, i32_w]
      rfl
    refine pure_ (i := 25) (N := some 45) (v := ?_) (a' := ?_) #[true, true, true, true, true, true, true, true, true, true, true, true, true, true, true, true, true, true, true, true, true, true, true, true, true, true, false] rfl rfl (by kernel_rfl) (fun _ _ _ h => h) (Or.inl ⟨by rfl, ?_⟩) ?_ ?_
    rotate_left
    · intro w'
      go_simp
      with_reducible rfl
    rotate_left
    · simp only [Act.put, List.setIfInBounds_toArray, List.set_cons_zero, List.set_cons_succ, i64_w, i32_w]
      rfl
    refine pure_ (i := 26) (N := some 6) (v := ?_) (a' := ?_) #[true, true, true, true, true, true, true, true, true, true, true, true, true, true, true, true, true, true, true, true, true, true, true, true, true, true, true] rfl rfl (by kernel_rfl) (fun _ _ _ h => h) (Or.inl ⟨by rfl, ?_⟩) ?_ ?_
    rotate_left
    · intro w'
      go_simp
      with_reducible rfl
    rotate_left
    · simp only [Act.put, List.setIfInBounds_toArray, List.set_cons_zero, List.set_cons_succ, i64_w, i32_w]
      rfl
    refine done_ (by kernel_rfl) ?_
    go_wp2_with (fail)
    go_ret
    exact ⟨rfl, HB0.out⟩
end Go.Proofs.Ytapofoipfdjfhaa.fnRatInts
