/-
  CONTRACTS behind Rat.norm: division by a number of one word, Ints of one word compared, one word set in place, the stack that is given back.
-/
import Derived.Test.YtgpgacnnkjiadaaGreatDoorGcdW
import Derived.Tactics
import Derived.Tactics2
import Derived.Defers
import Derived.Recover
namespace Go.Proofs.YtgpgacnnkjiadaaGreatDoor.Sp
open Go.RowKit Go.Proofs.YtgpgacnnkjiadaaGreatDoorW.PrintWords Go.Proofs.YtgpgacnnkjiadaaGreatDoorW.PrintLast Go.Proofs.YtgpgacnnkjiadaaGreatDoorW.PrintMore Go.Proofs.YtgpgacnnkjiadaaGreatDoor.Dig
set_option linter.unusedVariables false
set_option linter.unusedSimpArgs false
/-- What is left to be done at a function's end hangs on the temporaries by the results alone. -/
theorem leaves_tmps {P : Program} {fn : Func} {R : Ending → World → Prop} {t t' : Array Value} (h : results fn t' = results fn t) : ∀ (ds : List Deferred) (u : FrameMode) (w : World), Leaves P fn t R ds u w → Leaves P fn t' R ds u w := by
  intro ds
  induction ds with
  | nil =>
    intro u w hl
    cases u with
    | returning =>
      obtain ⟨v, h1, h2⟩ := hl
      exact ⟨v, by rw [h]; exact h1, h2⟩
    | panicking c => exact hl
    | run => exact hl.elim
  | cons d ds ih =>
    intro u w hl
    obtain ⟨hu, fv, cap, f, args, e1, e2, hc⟩ := hl
    refine ⟨hu, fv, cap, f, args, e1, e2, hc.mono ?_⟩
    intro e u' w' hr
    cases e with
    | returned v => exact ih _ _ hr
    | panicked c => exact ih _ _ hr
    | outgrown => exact hr
theorem norm_put {i : Nat} {v : Value} {a : Act} {R : Ending → World → Prop} {u : FrameMode} {w : World} (hi : i ≠ 2) (h : Leaves Tryz.prog Tryz.f20 (a.put (some i) v).tmps R (a.put (some i) v).defers u w) : Leaves Tryz.prog Tryz.f20 a.tmps R a.defers u w := by
  refine leaves_tmps ?_ _ _ _ h
  have h2 : (a.tmps.setIfInBounds i v)[2]? = a.tmps[2]? := Array.getElem?_setIfInBounds_ne hi
  simp [results, Tryz.results20, Act.put, Array.getD_eq_getD_getElem?, h2]
set_option maxHeartbeats 1600000 in
set_option maxRecDepth 100000 in
theorem free_d (k : Nat) (u : FrameMode) (w : World) (hk : hp w k = some (.cells #[.pointer none] 87 (0, 0))) :
    CallsD Tryz.prog 33 #[.pointer (some ⟨k, 0, none⟩)] u w fun e u' w' => u' = u ∧ (e = .returned (.tuple #[]) ∧ w' = w) := by
  obtain ⟨c0, f0⟩ := blk1 hk
  refine callsD_of_wp Tryz.func33 rfl ?_
  simp only [Tryz.ntmps33, List.size_toArray, List.length_cons, List.length_nil, Nat.reduceAdd, Nat.reduceSub, Array.replicate_succ, Array.replicate_zero, List.push_toArray, List.append_toArray, List.nil_append, List.cons_append]
  go_wp2_with (fail)
  refine bodyPost_end (v := .tuple #[]) (by simp [results, Tryz.results33, go_sem]) rfl ?_
  exact ⟨rfl, rfl⟩
set_option maxHeartbeats 1600000 in
set_option maxRecDepth 100000 in
theorem setWord1_c (k : Nat) (v : Value) (x y : Int) (w : World) (h : One w k v x) (hy : 0 < y ∧ y < BW) :
    Calls Tryz.prog 30 #[v, .int .u64 y] w fun e w' => e = .returned v ∧ One w' k v y ∧ Kept (On k) w w' := by
  obtain ⟨c, rfl, hc⟩ := h.slice
  obtain ⟨c0, f0⟩ := h.cell
  have HO := Aside0.mk h
  have HY := Aside0.mk hy
  have hy0 : 0 < y := hy.1
  clear h hy
  go_enter Tryz.func30, Tryz.ntmps30
  go_wp2_with (go_in)
  go_ret
  exact ⟨rfl, HO.out.put y ⟨by omega, HY.out.2⟩, (Kept.refl (On k) w).setCell (p := ⟨k, 0, none⟩) (.inl rfl) _⟩
set_option maxHeartbeats 1600000 in
set_option maxRecDepth 100000 in
theorem intCmp1_c (gx gy kx ky : Nat) (vx vy : Value) (p q : Int) (w : World) (hx : hp w gx = some (.cells #[.bool false, vx] 38 (0, 0))) (hy : hp w gy = some (.cells #[.bool false, vy] 38 (0, 0))) (hne : gx ≠ gy) (h : One w kx vx p) (h' : One w ky vy q) (hp0 : 0 < p) (hq0 : 0 < q) :
    Calls Tryz.prog 36 #[.pointer (some ⟨gx, 0, none⟩), .pointer (some ⟨gy, 0, none⟩)] w fun e w' => e = .returned (.int .i64 (cmpI p q)) ∧ Below w.heap.size w w' := by
  have he := eql_other 53 38 Tryz.underlying53 infoInt (by decide) (a := ⟨gx, 0, none⟩) (b := ⟨gy, 0, none⟩) (w := w) (by simp [hne]) hx hy
  obtain ⟨c, rfl, hc⟩ := h.slice
  obtain ⟨d, rfl, hd⟩ := h'.slice
  have po := h.ok
  have qo := h'.ok
  have HX := Aside0.mk h
  have HY := Aside0.mk h'
  have HGX := Aside0.mk hx
  have HGY := Aside0.mk hy
  obtain ⟨x0, x1, _, _⟩ := blk2 hx
  obtain ⟨y0, y1, _, _⟩ := blk2 hy
  have HC : ∀ W, Below w.heap.size w W → Calls Tryz.prog 52 #[.slice (some ⟨kx, 0, none⟩) 1 c, .slice (some ⟨ky, 0, none⟩) 1 d] W fun e w' => e = .returned (.int .i64 (cmpI p q)) ∧ ∃ n, w' = W.drewN n := fun W hW => by
    have h := natCmp_c (some ⟨kx, 0, none⟩) (some ⟨ky, 0, none⟩) c d [p] [q] W (HX.out.below hW).C (HY.out.below hW).C (cn_one hp0 po.2) (cn_one hq0 qo.2) (by simp) (by simp)
    rw [ev_one, ev_one] at h
    exact h
  have HCC := Aside0.mk HC
  obtain ⟨r, hr⟩ : ∃ r, r = cmpI p q := ⟨_, rfl⟩
  rw [← hr] at HC HCC ⊢
  clear h h' hx hy HC hr
  go_enter Tryz.func36, Tryz.ntmps36
  go_upto_region 3 with (fail)
  go_quiet (fail)
  go_upto_region 4 with (fail)
  obtain ⟨w1, hw1⟩ : ∃ w1, w1 = w.drewN nq := ⟨_, rfl⟩
  have hb1 : Below w.heap.size w w1 := by rw [hw1]; exact ⟨rfl, rfl, rfl, Nat.le_refl _, fun _ _ => rfl⟩
  have HGX1 := Aside0.mk (hp_below HGX.out hb1)
  have HGY1 := Aside0.mk (hp_below HGY.out hb1)
  have HB1 := Aside0.mk hb1
  have lgx := hp_lt HGX1.out
  have lgy := hp_lt HGY1.out
  rw [← hw1]
  clear hw1 x0 x1 y0 y1 he hb1
  obtain ⟨x0, x1, _, _⟩ := blk2 HGX1.out
  obtain ⟨y0, y1, _, _⟩ := blk2 HGY1.out
  have HC1 := Aside0.mk (HCC.out w1.drew (HB1.out.drew))
  refine start_ (n := 10) (S := fun w' => w'.cell? ⟨gx, 1, none⟩ = some (.slice (some ⟨kx, 0, none⟩) 1 c) ∧ w'.cell? ⟨gy, 1, none⟩ = some (.slice (some ⟨ky, 0, none⟩) 1 d)) (ds := []) #[false, false, false, false, false, false, false, false, false, false] (by kernel_rfl) rfl rfl ⟨(by go_simp), (by go_simp)⟩ (fun hHeld => ?_)
  refine pure_ (i := 0) (N := some 19) (v := ?_) (a' := ?_) #[true, false, false, false, false, false, false, false, false, false] rfl rfl (by kernel_rfl) (fun _ _ _ h => h) (Or.inl ⟨by rfl, ?_⟩) ?_ ?_
  rotate_left
  · intro w'
    go_simp
    with_reducible rfl
  rotate_left
  · simp only [Act.put, List.setIfInBounds_toArray, List.set_cons_zero, List.set_cons_succ, i64_w, i32_w]
    rfl
  refine pure_ (i := 1) (N := some 20) (v := ?_) (a' := ?_) #[true, true, false, false, false, false, false, false, false, false] rfl rfl (by kernel_rfl) (fun _ _ _ h => h) (Or.inl ⟨by rfl, ?_⟩) ?_ ?_
  rotate_left
  · intro w'
    go_simp
    with_reducible rfl
  rotate_left
  · simp only [Act.put, List.setIfInBounds_toArray, List.set_cons_zero, List.set_cons_succ, i64_w, i32_w]
    rfl
  refine pure_ (i := 2) (N := some 21) (v := ?_) (a' := ?_) #[true, true, true, false, false, false, false, false, false, false] rfl rfl (by kernel_rfl) (fun _ _ _ h => h) (Or.inl ⟨by rfl, ?_⟩) ?_ ?_
  rotate_left
  · intro w'
    go_simp
    with_reducible rfl
  rotate_left
  · simp only [Act.put, List.setIfInBounds_toArray, List.set_cons_zero, List.set_cons_succ, i64_w, i32_w]
    rfl
  refine pure_ (i := 4) (N := some 23) (v := ?_) (a' := ?_) #[true, true, true, false, true, false, false, false, false, false] rfl rfl (by kernel_rfl) (fun _ _ _ h => h) (Or.inl ⟨by rfl, ?_⟩) ?_ ?_
  rotate_left
  · intro w'
    go_simp
    with_reducible rfl
  rotate_left
  · simp only [Act.put, List.setIfInBounds_toArray, List.set_cons_zero, List.set_cons_succ, i64_w, i32_w]
    rfl
  refine pure_ (i := 5) (N := some 24) (v := ?_) (a' := ?_) #[true, true, true, false, true, true, false, false, false, false] rfl rfl (by kernel_rfl) (fun _ _ _ h => h) (Or.inl ⟨by rfl, ?_⟩) ?_ ?_
  rotate_left
  · intro w'
    go_simp
    with_reducible rfl
  rotate_left
  · simp only [Act.put, List.setIfInBounds_toArray, List.set_cons_zero, List.set_cons_succ, i64_w, i32_w]
    rfl
  refine pure_ (i := 6) (N := some 25) (v := ?_) (a' := ?_) #[true, true, true, false, true, true, true, false, false, false] rfl rfl (by kernel_rfl) (fun _ _ _ h => h) (Or.inl ⟨by rfl, ?_⟩) ?_ ?_
  rotate_left
  · intro w'
    go_simp
    with_reducible rfl
  rotate_left
  · simp only [Act.put, List.setIfInBounds_toArray, List.set_cons_zero, List.set_cons_succ, i64_w, i32_w]
    rfl
  refine take_ (i := 3) (N := some 22) (v := ?_) (a' := ?_) #[true, true, true, true, true, true, true, false, false, false] rfl rfl (by kernel_rfl) (fun _ _ _ h => h) (Or.inl ⟨by rfl, ?_⟩) hHeld ?_ ?_
  rotate_left
  · rintro w' ⟨s0, s1⟩
    go_simp
    with_reducible rfl
  rotate_left
  · simp only [Act.put, List.setIfInBounds_toArray, List.set_cons_zero, List.set_cons_succ, i64_w, i32_w]
    rfl
  refine take_ (i := 7) (N := some 26) (v := ?_) (a' := ?_) #[true, true, true, true, true, true, true, true, false, false] rfl rfl (by kernel_rfl) (fun _ _ _ h => h) (Or.inl ⟨by rfl, ?_⟩) hHeld ?_ ?_
  rotate_left
  · rintro w' ⟨s0, s1⟩
    go_simp
    with_reducible rfl
  rotate_left
  · simp only [Act.put, List.setIfInBounds_toArray, List.set_cons_zero, List.set_cons_succ, i64_w, i32_w]
    rfl
  refine one_ (i := 8) (N := some 27) #[true, true, true, true, true, true, true, true, true, false] rfl rfl (by kernel_rfl) (by decide) (fun K hK => ?_)
  refine goes_ Tryz.func52 (by kernel_rfl) rfl #[.slice (some ⟨kx, 0, none⟩) 1 c, .slice (some ⟨ky, 0, none⟩) 1 d] (by rfl) rfl rfl (by simp only [List.map_toArray, List.map_cons, List.map_nil]; rfl) ?_
  with_reducible refine (HC1.out).mono ?_
  rintro e w2 ⟨rfl, hn⟩
  refine ⟨_, rfl, ?_⟩
  have hb2 : Below w1.heap.size w1 w2 := by obtain ⟨n, rfl⟩ := hn; exact ⟨rfl, rfl, rfl, Nat.le_refl _, fun _ _ => rfl⟩
  have q0 := (hb2.cell (p := ⟨gx, 1, none⟩) lgx).trans x1
  have q1 := (hb2.cell (p := ⟨gy, 1, none⟩) lgy).trans y1
  have z0 := (hb2.cell (p := ⟨gx, 0, none⟩) lgx).trans x0
  have HB2 := Aside0.mk (below_step HB1.out hb2)
  clear hn HC1 HCC hb2
  refine hK.out _ _ ⟨q0, q1⟩ (fun hHeld => ?_)
  clear hK K
  refine norm_ (a' := ?_) ?_ ?_
  rotate_left
  · show Act.put _ (some 27) _ = _
    simp only [Act.put, List.setIfInBounds_toArray, List.set_cons_zero, List.set_cons_succ, i64_w, i32_w]
    rfl
  refine pure_ (i := 9) (N := some 4) (v := ?_) (a' := ?_) #[true, true, true, true, true, true, true, true, true, true] rfl rfl (by kernel_rfl) (fun _ _ _ h => h) (Or.inl ⟨by rfl, ?_⟩) ?_ ?_
  rotate_left
  · intro w'
    go_simp
    with_reducible rfl
  rotate_left
  · simp only [Act.put, List.setIfInBounds_toArray, List.set_cons_zero, List.set_cons_succ, i64_w, i32_w]
    rfl
  refine done_ (by kernel_rfl) ?_
  clear x0
  go_wp2_with (fail)
  go_ret
  exact ⟨rfl, HB2.out⟩
set_option maxHeartbeats 1600000 in
set_option maxRecDepth 100000 in
theorem natDiv1_c (k m : Nat) (stk v vf : Value) (P : Nat → Prop) (p f : Int) (w : World) (h : NR w P v p) (hp0 : 0 < p) (hf : One w m vf f) (hf2 : 2 ≤ f) (hd : p % f = 0) (hP : ¬ P m) (hbig : p < BW ^ 100000) :
    Calls Tryz.prog 38 #[v, stk, .slice none 0 0, v, vf] w fun e w' => ∃ q, e = .returned (.tuple #[q, .slice none 0 0]) ∧ NR w' (fun i => P i ∨ w.heap.size ≤ i) q (p / f) ∧ Kept P w w' := by
  obtain ⟨L, hr, hc, he, hl0, hl1⟩ := NR.rd (S := P) (z := v) h hp0 (.inr rfl)
  have hlen : L.length ≤ 100000 := Cn_len_le hc BW_gt _ (by rw [he]; exact hbig)
  have HD := Aside0.mk (natDivW_c v v P L f w h.dst hr hl0 (by omega) ⟨hf2, hf.ok.2⟩)
  rw [he, hd] at HD
  obtain ⟨c, rfl, hcc⟩ := hf.slice
  obtain ⟨c0, f0⟩ := hf.cell
  obtain ⟨A, n, cc, rfl⟩ := h.slice
  clear h hf hr hc
  go_enter_defers Tryz.func38, Tryz.ntmps38
  go_wp2_with (fail)
  refine (HD.out).mono ?_
  rintro e w1 ⟨q, rfl, hq, hk⟩
  obtain ⟨A1, n1, c1, rfl⟩ := hq.slice
  have HQ := Aside0.mk hq
  have HK := Aside0.mk hk
  clear hq hk HD
  go_wp2_with (go_in)
  simp [bodyPostD, Leaves, settle, results, Tryz.results38, go_sem]
  exact ⟨HQ.out, HK.out⟩
end Go.Proofs.YtgpgacnnkjiadaaGreatDoor.Sp
