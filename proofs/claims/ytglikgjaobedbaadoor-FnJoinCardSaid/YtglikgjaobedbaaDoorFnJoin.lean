/-
  FnJoin holds for every input.
-/
import Derived.Test.YtglikgjaobedbaaDoorTold
namespace Go.Proofs.YtglikgjaobedbaaDoor.fnJoin
open Go.RowKit Go.Proofs.YtglikgjaobedbaaDoorW.PrintWords Go.Proofs.YtglikgjaobedbaaDoorW.PrintLast Go.Proofs.YtglikgjaobedbaaDoorW.PrintMore Go.Proofs.YtglikgjaobedbaaDoor.Dig Go.Proofs.YtglikgjaobedbaaDoor.Sp
set_option linter.unusedVariables false
set_option linter.unusedSimpArgs false
theorem wd_kept {S : Nat → Prop} {w w' : World} {A : Option Addr} {n c : Nat} {V : Int} (h : Wd w (.slice A n c) V) (hk : Kept S w w') (hS : ∀ a, A = some a → 0 < n → ¬ S a.block) : Wd w' (.slice A n c) V := by
  obtain ⟨_, _, l, e, h2, h3, h4, h5⟩ := h
  injection e with e1 e2 e3
  subst e1 e2 e3
  cases A with
  | none =>
    have hl : l = [] := by
      cases l with
      | nil => rfl
      | cons d l =>
        obtain ⟨ad, e, _⟩ := h3.2.2 (by simp)
        cases e
    subst hl
    exact ⟨none, _, [], rfl, h2, Kd.C_nil _ _, h4, h5⟩
  | some a => exact ⟨some a, _, l, rfl, h2, C_kept hk h3 (fun h0 => hS a rfl h0), h4, h5⟩
theorem wd_off {w : World} {a : Addr} {n c g : Nat} {V : Int} (h : Wd w (.slice (some a) n c) V) (hn : 0 < n) (hg : hp w g = some (.cells #[.int .u64 0, .int .i64 0, .int .i64 0, .bool false, .slice none 0 0, .int .i64 0] 28 (0, 0))) : a.block ≠ g := by
  obtain ⟨_, _, l, e, h2, h3, h4, h5⟩ := h
  injection e with e1 e2 e3
  subst e1 e2 e3
  have h6 := C_at h3 (l.length - 1) (by omega)
  have htop : l.getD (l.length - 1) 0 ≠ 0 := by
    have h0 : l ≠ [] := List.length_pos_iff.1 hn
    have h7 := h4.top (l.getLast h0) (List.getLast?_eq_some_getLast h0)
    rw [List.getLast_eq_getElem] at h7
    simpa [List.getD, List.getElem?_eq_getElem (show l.length - 1 < l.length by omega)] using h7
  have h7 := not_block h6 hg (by
    intro u hu
    simp at hu
    rcases hu with rfl | rfl | rfl | rfl | rfl <;> simp
    intro e
    exact htop e.symm)
  rwa [show (a.add (l.length - 1)).block = a.block from by unfold Addr.add; split <;> rfl] at h7
set_option maxHeartbeats 6400000 in
set_option maxRecDepth 100000 in
theorem walk (p m f : Int) (neg : Bool) (v : Value) (X : List Int) (x : Int) (w : World) (hv : InInts .u64 w v X) (hp : (Lit.int .u64 p).wf = true) (hm : (Lit.int .i64 m).wf = true) (hf : (Lit.int .i64 f).wf = true) (hx : (Lit.int .i64 x).wf = true) (hT : Tb w) :
    Calls Tryd.prog 8 #[.agg #[.int .u64 p, .int .i64 m, .int .i64 f, .bool neg, v, .int .i64 x]] w fun e w' => e = .returned (.bool true) ∧ Below w.heap.size w w' := by
  have hws := ws_in hv
  obtain ⟨A, c, rfl, _⟩ := hv
  have hpp := wf_u64 hp
  clear hp hm hf hx 
  obtain ⟨P, rfl⟩ := Int.eq_ofNat_of_zero_le hpp.1
  have hu := Tryd.underlying28
  have HB0 := Aside0.mk (below_alloc (below_alloc (Below.refl w.heap.size w) (.cells #[.int .u64 P, .int .i64 m, .int .i64 f, .bool neg, .slice A X.length c, .int .i64 x] 28)) (.cells #[.int .u64 P, .int .i64 m, .int .i64 f, .bool neg, .slice A X.length c, .int .i64 x] 28))
  have HX := Aside0.mk (hws.below HB0.out)
  have HT := Aside0.mk (hT.below HB0.out hT.2)
  have HWS := Aside0.mk hws
  clear hws
  have hgT : 2 < w.heap.size := hT.2
  clear hT
  by_cases hbb : 2147483647 < X.length
  · go_enter Tryd.func8, Tryd.ntmps8
    go_wp2_with ((fail_if_success go_at_call 21); go_in)
    go_ret
    exact ⟨rfl, HB0.out⟩
  have HRL := Aside0.mk (real_l 300 1000 P m f x neg A c X _ HX.out (by omega) (by omega) (by omega))
  go_enter Tryd.func8, Tryd.ntmps8
  go_wp2_with ((fail_if_success go_at_call 21); go_in)
  refine (HRL.out).mono ?_
  rintro e w1 ⟨r, rfl, hr, hb1⟩
  have KX := Aside0.mk (hp_below (show hp _ w.heap.size = some (.cells #[.int .u64 P, .int .i64 m, .int .i64 f, .bool neg, .slice A X.length c, .int .i64 x] 28 (0, 0)) from (by simp (disch := first | omega | (simp; omega) | (simp; done) | fail) [hp_new, hp_old, hp_here, hp_other, setObj_cells, hp_drew, hp_drewN])) hb1)
  have HB1 := Aside0.mk (below_step HB0.out hb1)
  have HX1 := Aside0.mk (HX.out.below hb1)
  have HT1 := Aside0.mk (HT.out.below hb1 HT.out.2)
  have hs1 := hp_lt KX.out
  clear hb1 HRL HB0 HX HT
  obtain ⟨c0, c1, c2, c3, c4, c5, f0, f1, f2, f3, f4, f5⟩ := blk6 KX.out
  cases r with
  | false =>
    clear hr
    go_wp2_with (fail)
    go_ret
    exact ⟨rfl, HB1.out⟩
  | true =>
    obtain ⟨z, b, n, hrok, h1⟩ := lets (hr rfl) HX1.out (by omega) (by omega)
    have H1 := Aside0.mk h1
    have hp1 := hrok.1
    have hm1 := hrok.2.1
    have HRK := Aside0.mk hrok
    clear hrok h1 hr
    obtain ⟨y, hy⟩ : ∃ y, y = tx f (-(b : Int)) n := ⟨_, rfl⟩
    obtain ⟨E, hE⟩ : ∃ E, E = me f b x := ⟨_, rfl⟩
    have HVL := Aside0.mk (show tv f z n < Lim from by
      by_cases hf : f = 1
      · obtain ⟨_, h2, h3, _⟩ := H1.out hf
        rw [tv, if_pos hf]
        have := Int.ediv_le_self (2 ^ n) (Int.le_of_lt h2)
        omega
      · rw [tv, if_neg hf]; exact lt_Lim 0 (by decide) (by omega))
    obtain ⟨V, hV⟩ : ∃ V, V = tv f z n := ⟨_, rfl⟩
    rw [← hV] at HVL
    obtain ⟨q, hq⟩ : ∃ q, q = tx f x n := ⟨_, rfl⟩
    have hpp0 := parts0_c P m f neg A X.length c x z b n X w1 HRK.out HT1.out
    unfold PartsPost at hpp0
    rw [← hy, ← hE] at hpp0
    have HP0 := Aside0.mk hpp0
    have HQ := Aside0.mk hq
    have HVV := Aside0.mk hV
    have HYY := Aside0.mk hy
    have HEE := Aside0.mk hE
    clear hpp0 hq hV hy hE
    go_wp2_with (fail)
    refine (HP0.out).mono ?_
    rintro e w2 ⟨A1, n1, k1, rfl, hv1, hb2⟩
    have hq := HQ.out
    have hV := HVV.out
    have hy := HYY.out
    have hE := HEE.out
    obtain ⟨X', hrk⟩ := told_rok HRK.out hv1.wd
    have hj0 := fun W (hr : ROk W P m f A1 n1 k1 (tx f (-(b : Int)) n) (tv f z n) (b - n) 0 X') (hT : Tb W) => join0_c (me f b x) P m f neg A1 n1 k1 (tx f (-(b : Int)) n) (tv f z n) (b - n) 0 X' W hr hT (fun h => by have := HRK.out.bb h; have := (H1.out h).2.2.2.2.2; rw [me, if_pos h]; omega)
    have hj1 := fun W (hr : ROk W P m f A1 n1 k1 (tx f (-(b : Int)) n) (tv f z n) (b - n) 0 X') (hT : Tb W) => join1_c (me f b x) P m f neg A1 n1 k1 (tx f (-(b : Int)) n) (tv f z n) (b - n) 0 X' W hr hT (fun h => by have := HRK.out.bb h; have := (H1.out h).2.2.2.2.2; rw [me, if_pos h]; omega)
    unfold JoinPost at hj0 hj1
    rw [tv_tv, tx_back, ← hV, ← hy, ← hE, ← hq] at hj0 hj1
    rw [← hV, ← hy] at hrk
    have HJ0 := Aside0.mk hj0
    have HJ1 := Aside0.mk hj1
    have HB2 := Aside0.mk (below_step HB1.out hb2)
    have HBA := Aside0.mk (below_alloc (Below.refl w2.heap.size w2) (.cells #[.int .u64 P, .int .i64 m, .int .i64 f, .bool neg, .slice A1 n1 k1, .int .i64 y] 28))
    have HRM := Aside0.mk (hrk.below HBA.out)
    have HT2 := Aside0.mk ((HT1.out.below hb2 HT1.out.2).below HBA.out (by have := hb2.size; omega))
    have KX2 := Aside0.mk (hp_below (hp_below KX.out hb2) HBA.out)
    have hs2 : w.heap.size < w2.heap.size := by have := hb2.size; omega
    have KM := Aside0.mk (show hp (w2.alloc (.cells #[.int .u64 P, .int .i64 m, .int .i64 f, .bool neg, .slice A1 n1 k1, .int .i64 y] 28)) w2.heap.size = some (.cells #[.int .u64 P, .int .i64 m, .int .i64 f, .bool neg, .slice A1 n1 k1, .int .i64 y] 28 (0, 0)) from (by simp (disch := first | omega | (simp; omega) | (simp; done) | fail) [hp_new, hp_old, hp_here, hp_other, setObj_cells, hp_drew, hp_drewN]))
    clear hv1 hb2 HRK HT1 KX HP0 hj0 hj1 hq hV hy hE hrk c0 c1 c2 c3 c4 c5 f0 f1 f2 f3 f4 f5
    go_upto_region 6 with (fail)
    obtain ⟨w3, hw3⟩ : ∃ w3, w3 = w2.alloc (.cells #[.int .u64 P, .int .i64 m, .int .i64 f, .bool neg, .slice A1 n1 k1, .int .i64 y] 28) := ⟨_, rfl⟩
    rw [← hw3] at HBA HRM HT2 KX2 KM ⊢
    clear hw3
    obtain ⟨c0, c1, c2, c3, c4, c5, f0, f1, f2, f3, f4, f5⟩ := blk6 KM.out
    have hs3 := hp_lt KM.out
    have HB0 := Aside0.mk (below_drew1 (HB2.out.trans (HBA.out.mono (by omega))))
    have hbd : Below w3.heap.size w3 w3.drew := below_drew (Below.refl _ _)
    replace HRM := Aside0.mk (HRM.out.below hbd)
    replace HT2 := Aside0.mk (HT2.out.below hbd HT2.out.2)
    replace KX2 := Aside0.mk (hp_below KX2.out hbd)
    replace KM := Aside0.mk (hp_below KM.out hbd)
    clear hbd HBA HB2
    refine start_ (n := 10) (S := fun w' => w'.cell? ⟨w2.heap.size, 0, none⟩ = some (.int .u64 P) ∧ w'.cell? ⟨w2.heap.size, 1, none⟩ = some (.int .i64 m) ∧ w'.cell? ⟨w2.heap.size, 2, none⟩ = some (.int .i64 f) ∧ w'.cell? ⟨w2.heap.size, 3, none⟩ = some (.bool neg) ∧ w'.cell? ⟨w2.heap.size, 4, none⟩ = some (.slice A1 n1 k1) ∧ w'.cell? ⟨w2.heap.size, 5, none⟩ = some (.int .i64 y)) (ds := [8, 9]) #[false, false, false, false, false, false, false, false, false, false] (by kernel_rfl) rfl rfl ⟨(by go_simp), (by go_simp), (by go_simp), (by go_simp), (by go_simp), (by go_simp)⟩ (fun hHeld => ?_)
    refine pure_ (i := 1) (N := some 19) (v := ?_) (a' := ?_) #[false, true, false, false, false, false, false, false, false, false] rfl rfl (by kernel_rfl) (fun _ _ _ h => h) (Or.inl ⟨by rfl, ?_⟩) ?_ ?_
    rotate_left
    · intro w'
      go_simp
      with_reducible rfl
    rotate_left
    · simp only [Act.put, List.setIfInBounds_toArray, List.set_cons_zero, List.set_cons_succ, i64_w, i32_w]
      rfl
    refine pure_ (i := 4) (N := some 22) (v := ?_) (a' := ?_) #[false, true, false, false, true, false, false, false, false, false] rfl rfl (by kernel_rfl) (fun _ _ _ h => h) (Or.inl ⟨by rfl, ?_⟩) ?_ ?_
    rotate_left
    · intro w'
      go_simp
      with_reducible rfl
    rotate_left
    · simp only [Act.put, List.setIfInBounds_toArray, List.set_cons_zero, List.set_cons_succ, i64_w, i32_w]
      rfl
    refine take_ (i := 0) (N := some 18) (v := ?_) (a' := ?_) #[true, true, false, false, true, false, false, false, false, false] rfl rfl (by kernel_rfl) (fun _ _ _ h => h) (Or.inl ⟨by rfl, ?_⟩) hHeld ?_ ?_
    rotate_left
    · rintro w' ⟨s0, s1, s2, s3, s4, s5⟩
      go_simp
      with_reducible rfl
    rotate_left
    · simp only [Act.put, List.setIfInBounds_toArray, List.set_cons_zero, List.set_cons_succ, i64_w, i32_w]
      rfl
    refine take_ (i := 3) (N := some 21) (v := ?_) (a' := ?_) #[true, true, false, true, true, false, false, false, false, false] rfl rfl (by kernel_rfl) (fun _ _ _ h => h) (Or.inl ⟨by rfl, ?_⟩) hHeld ?_ ?_
    rotate_left
    · rintro w' ⟨s0, s1, s2, s3, s4, s5⟩
      go_simp
      with_reducible rfl
    rotate_left
    · simp only [Act.put, List.setIfInBounds_toArray, List.set_cons_zero, List.set_cons_succ, i64_w, i32_w]
      rfl
    refine join_ (σ := Option Addr × Nat × Nat × Option Addr × Nat × Nat × Nat × Nat) 2 #[true, true, true, true, true, true, true, true, false, false] (fun s => [(20, .agg #[.int .u64 P, .int .i64 m, .int .i64 f, .bool neg, .slice s.1 s.2.1 s.2.2.1, .int .i64 q]), (23, .agg #[.int .u64 P, .int .i64 m, .int .i64 f, .bool neg, .slice s.2.2.2.1 s.2.2.2.2.1 s.2.2.2.2.2.1, .int .i64 q]), (5, .pointer (some ⟨s.2.2.2.2.2.2.1, 0, none⟩)), (6, .pointer (some ⟨s.2.2.2.2.2.2.2, 0, none⟩))]) (fun s w' => Wd w' (.slice s.1 s.2.1 s.2.2.1) V ∧ Wd w' (.slice s.2.2.2.1 s.2.2.2.2.1 s.2.2.2.2.2.1) V ∧ hp w' s.2.2.2.2.2.2.1 = some (.cells #[.int .u64 0, .int .i64 0, .int .i64 0, .bool false, .slice none 0 0, .int .i64 0] 28 (0, 0)) ∧ hp w' s.2.2.2.2.2.2.2 = some (.cells #[.int .u64 0, .int .i64 0, .int .i64 0, .bool false, .slice none 0 0, .int .i64 0] 28 (0, 0)) ∧ s.2.2.2.2.2.2.1 ≠ s.2.2.2.2.2.2.2 ∧ w2.heap.size < s.2.2.2.2.2.2.1 ∧ w2.heap.size < s.2.2.2.2.2.2.2 ∧ Below w.heap.size w w' ∧ hp w' w.heap.size = some (.cells #[.int .u64 P, .int .i64 m, .int .i64 f, .bool neg, .slice A X.length c, .int .i64 x] 28 (0, 0)) ∧ hp w' w2.heap.size = some (.cells #[.int .u64 P, .int .i64 m, .int .i64 f, .bool neg, .slice A1 n1 k1, .int .i64 y] 28 (0, 0))) ?_ ?_
    rotate_left
    · intro hCont
      refine three_ (i := 2) (j := 6) (k := 7) (Ni := some 20) (Nj := some 5) (Nk := some 6) #[true, true, true, true, true, false, false, false, false, false] #[true, true, false, true, true, false, true, false, false, false] #[true, true, false, true, true, false, false, true, false, false] rfl rfl rfl rfl rfl rfl (by kernel_rfl) (by decide) (by decide) (by decide) (fun K hK => ?_) (fun K hK => ?_) (fun K hK => ?_)
      · skip
        refine goes_ Tryd.func26 (by kernel_rfl) rfl #[.bool false, .agg #[.int .u64 P, .int .i64 m, .int .i64 f, .bool neg, .slice A1 n1 k1, .int .i64 y], .int .i64 E] (by rfl) rfl rfl (by simp only [List.map_toArray, List.map_cons, List.map_nil]; rfl) ?_
        with_reducible refine (HJ0.out _ HRM.out HT2.out).mono ?_
        rintro e wc2 ⟨A3, n3, k3, rfl, hv, hb1⟩
        refine ⟨_, rfl, ?_⟩
        replace HB0 := Aside0.mk (below_step HB0.out hb1)
        replace HRM := Aside0.mk (HRM.out.below hb1)
        replace HT2 := Aside0.mk (HT2.out.below hb1 HT2.out.2)
        replace KX2 := Aside0.mk (hp_below KX2.out hb1)
        replace KM := Aside0.mk (hp_below KM.out hb1)
        have HA := Aside0.mk hv.wd
        clear hv hb1
        refine hK.out _ _ ⟨(blk6 KM.out).1, (blk6 KM.out).2.1, (blk6 KM.out).2.2.1, (blk6 KM.out).2.2.2.1, (blk6 KM.out).2.2.2.2.1, (blk6 KM.out).2.2.2.2.2.1⟩ (fun hHeld => ?_)
        clear hK K
        refine norm_ (a' := ?_) ?_ ?_
        rotate_left
        · show Act.put _ (some 20) _ = _
          simp only [Act.put, List.setIfInBounds_toArray, List.set_cons_zero, List.set_cons_succ, i64_w, i32_w]
          rfl
        refine three_ (i := 5) (j := 6) (k := 7) (Ni := some 23) (Nj := some 5) (Nk := some 6) #[true, true, true, true, true, true, false, false, false, false] #[true, true, true, true, true, false, true, false, false, false] #[true, true, true, true, true, false, false, true, false, false] rfl rfl rfl rfl rfl rfl (by kernel_rfl) (by decide) (by decide) (by decide) (fun K hK => ?_) (fun K hK => ?_) (fun K hK => ?_)
        · skip
          refine goes_ Tryd.func26 (by kernel_rfl) rfl #[.bool true, .agg #[.int .u64 P, .int .i64 m, .int .i64 f, .bool neg, .slice A1 n1 k1, .int .i64 y], .int .i64 E] (by rfl) rfl rfl (by simp only [List.map_toArray, List.map_cons, List.map_nil]; rfl) ?_
          with_reducible refine (HJ1.out _ HRM.out HT2.out).mono ?_
          rintro e wc5 ⟨A4, n4, k4, rfl, hv, hb1⟩
          refine ⟨_, rfl, ?_⟩
          replace HB0 := Aside0.mk (below_step HB0.out hb1)
          replace HRM := Aside0.mk (HRM.out.below hb1)
          replace HT2 := Aside0.mk (HT2.out.below hb1 HT2.out.2)
          replace KX2 := Aside0.mk (hp_below KX2.out hb1)
          replace KM := Aside0.mk (hp_below KM.out hb1)
          replace HA := Aside0.mk (HA.out.below hb1)
          have HBV := Aside0.mk hv.wd
          clear hv hb1
          refine hK.out _ _ ⟨(blk6 KM.out).1, (blk6 KM.out).2.1, (blk6 KM.out).2.2.1, (blk6 KM.out).2.2.2.1, (blk6 KM.out).2.2.2.2.1, (blk6 KM.out).2.2.2.2.2.1⟩ (fun hHeld => ?_)
          clear hK K
          refine norm_ (a' := ?_) ?_ ?_
          rotate_left
          · show Act.put _ (some 23) _ = _
            simp only [Act.put, List.setIfInBounds_toArray, List.set_cons_zero, List.set_cons_succ, i64_w, i32_w]
            rfl
          refine two_ (i := 6) (j := 7) (Ni := some 5) (Nj := some 6) #[true, true, true, true, true, true, true, false, false, false] #[true, true, true, true, true, true, false, true, false, false] rfl rfl rfl rfl (by kernel_rfl) (by decide) (by decide) (fun K hK => ?_) (fun K hK => ?_)
          · skip
            refine value_ (w1 := ?_) (v := ?_) (by rfl) rfl ?_ ?_
            rotate_left 2
            · go_simp
              constructor
              · rfl
              · rfl
            have hb1 : Below wc5.heap.size wc5 (wc5.alloc (.cells #[.int .u64 0, .int .i64 0, .int .i64 0, .bool false, .slice none 0 0, .int .i64 0] 28)) := below_alloc (Below.refl wc5.heap.size wc5) (.cells #[.int .u64 0, .int .i64 0, .int .i64 0, .bool false, .slice none 0 0, .int .i64 0] 28)
            have KG5 := Aside0.mk (show hp (wc5.alloc (.cells #[.int .u64 0, .int .i64 0, .int .i64 0, .bool false, .slice none 0 0, .int .i64 0] 28)) (wc5.heap.size) = some (.cells #[.int .u64 0, .int .i64 0, .int .i64 0, .bool false, .slice none 0 0, .int .i64 0] 28 (0, 0)) from (by simp (disch := first | omega | (simp; omega) | (simp; done) | fail) [hp_new, hp_old, hp_here, hp_other, setObj_cells, hp_drew, hp_drewN]))
            have KG5b := Aside0.mk (show w2.heap.size < wc5.heap.size from by first | omega | exact hp_lt KM.out | (have := KG6b.out; omega) | fail)
            replace HB0 := Aside0.mk (below_step HB0.out hb1)
            replace HRM := Aside0.mk (HRM.out.below hb1)
            replace HT2 := Aside0.mk (HT2.out.below hb1 HT2.out.2)
            replace KX2 := Aside0.mk (hp_below KX2.out hb1)
            replace KM := Aside0.mk (hp_below KM.out hb1)
            replace HA := Aside0.mk (HA.out.below hb1)
            replace HBV := Aside0.mk (HBV.out.below hb1)
            clear hb1
            refine hK.out _ _ ⟨(blk6 KM.out).1, (blk6 KM.out).2.1, (blk6 KM.out).2.2.1, (blk6 KM.out).2.2.2.1, (blk6 KM.out).2.2.2.2.1, (blk6 KM.out).2.2.2.2.2.1⟩ (fun hHeld => ?_)
            clear hK K
            refine norm_ (a' := ?_) ?_ ?_
            rotate_left
            · show Act.put _ (some 5) _ = _
              simp only [Act.put, List.setIfInBounds_toArray, List.set_cons_zero, List.set_cons_succ, i64_w, i32_w]
              rfl
            refine one_ (i := 7) (N := some 6) #[true, true, true, true, true, true, true, true, false, false] rfl rfl (by kernel_rfl) (by decide) (fun K hK => ?_)
            refine value_ (w1 := ?_) (v := ?_) (by rfl) rfl ?_ ?_
            rotate_left 2
            · go_simp
              constructor
              · rfl
              · rfl
            have hb1 : Below (wc5.alloc (.cells #[.int .u64 0, .int .i64 0, .int .i64 0, .bool false, .slice none 0 0, .int .i64 0] 28)).heap.size (wc5.alloc (.cells #[.int .u64 0, .int .i64 0, .int .i64 0, .bool false, .slice none 0 0, .int .i64 0] 28)) ((wc5.alloc (.cells #[.int .u64 0, .int .i64 0, .int .i64 0, .bool false, .slice none 0 0, .int .i64 0] 28)).alloc (.cells #[.int .u64 0, .int .i64 0, .int .i64 0, .bool false, .slice none 0 0, .int .i64 0] 28)) := below_alloc (Below.refl (wc5.alloc (.cells #[.int .u64 0, .int .i64 0, .int .i64 0, .bool false, .slice none 0 0, .int .i64 0] 28)).heap.size (wc5.alloc (.cells #[.int .u64 0, .int .i64 0, .int .i64 0, .bool false, .slice none 0 0, .int .i64 0] 28))) (.cells #[.int .u64 0, .int .i64 0, .int .i64 0, .bool false, .slice none 0 0, .int .i64 0] 28)
            have HGG := Aside0.mk (show wc5.heap.size < wc5.heap.size + 1 from by first | omega | exact hp_lt KG5.out | fail)
            have HNE : Aside0 (wc5.heap.size ≠ wc5.heap.size + 1) := ⟨by have := HGG.out; omega⟩
            have KG6 := Aside0.mk (show hp ((wc5.alloc (.cells #[.int .u64 0, .int .i64 0, .int .i64 0, .bool false, .slice none 0 0, .int .i64 0] 28)).alloc (.cells #[.int .u64 0, .int .i64 0, .int .i64 0, .bool false, .slice none 0 0, .int .i64 0] 28)) (wc5.heap.size + 1) = some (.cells #[.int .u64 0, .int .i64 0, .int .i64 0, .bool false, .slice none 0 0, .int .i64 0] 28 (0, 0)) from (by simp (disch := first | omega | (simp; omega) | (simp; done) | fail) [hp_new, hp_old, hp_here, hp_other, setObj_cells, hp_drew, hp_drewN]))
            have KG6b := Aside0.mk (show w2.heap.size < wc5.heap.size + 1 from by first | omega | exact hp_lt KM.out | (have := KG5b.out; omega) | fail)
            replace HB0 := Aside0.mk (below_step HB0.out hb1)
            replace HRM := Aside0.mk (HRM.out.below hb1)
            replace HT2 := Aside0.mk (HT2.out.below hb1 HT2.out.2)
            replace KX2 := Aside0.mk (hp_below KX2.out hb1)
            replace KM := Aside0.mk (hp_below KM.out hb1)
            replace HA := Aside0.mk (HA.out.below hb1)
            replace HBV := Aside0.mk (HBV.out.below hb1)
            replace KG5 := Aside0.mk (hp_below KG5.out hb1)
            clear hb1
            refine hK.out _ _ ⟨(blk6 KM.out).1, (blk6 KM.out).2.1, (blk6 KM.out).2.2.1, (blk6 KM.out).2.2.2.1, (blk6 KM.out).2.2.2.2.1, (blk6 KM.out).2.2.2.2.2.1⟩ (fun hHeld => ?_)
            clear hK K
            refine norm_ (a' := ?_) ?_ ?_
            rotate_left
            · show Act.put _ (some 6) _ = _
              simp only [Act.put, List.setIfInBounds_toArray, List.set_cons_zero, List.set_cons_succ, i64_w, i32_w]
              rfl
            exact norm_ (by simp only [putAll, Act.put, List.setIfInBounds_toArray, List.set_cons_zero, List.set_cons_succ]) (hCont (A3, n3, k3, A4, n4, k4, wc5.heap.size, wc5.heap.size + 1) _ ⟨HA.out, HBV.out, KG5.out, KG6.out, HNE.out, KG5b.out, KG6b.out, HB0.out, KX2.out, KM.out⟩)
          · skip
            refine value_ (w1 := ?_) (v := ?_) (by rfl) rfl ?_ ?_
            rotate_left 2
            · go_simp
              constructor
              · rfl
              · rfl
            have hb1 : Below wc5.heap.size wc5 (wc5.alloc (.cells #[.int .u64 0, .int .i64 0, .int .i64 0, .bool false, .slice none 0 0, .int .i64 0] 28)) := below_alloc (Below.refl wc5.heap.size wc5) (.cells #[.int .u64 0, .int .i64 0, .int .i64 0, .bool false, .slice none 0 0, .int .i64 0] 28)
            have KG6 := Aside0.mk (show hp (wc5.alloc (.cells #[.int .u64 0, .int .i64 0, .int .i64 0, .bool false, .slice none 0 0, .int .i64 0] 28)) (wc5.heap.size) = some (.cells #[.int .u64 0, .int .i64 0, .int .i64 0, .bool false, .slice none 0 0, .int .i64 0] 28 (0, 0)) from (by simp (disch := first | omega | (simp; omega) | (simp; done) | fail) [hp_new, hp_old, hp_here, hp_other, setObj_cells, hp_drew, hp_drewN]))
            have KG6b := Aside0.mk (show w2.heap.size < wc5.heap.size from by first | omega | exact hp_lt KM.out | (have := KG5b.out; omega) | fail)
            replace HB0 := Aside0.mk (below_step HB0.out hb1)
            replace HRM := Aside0.mk (HRM.out.below hb1)
            replace HT2 := Aside0.mk (HT2.out.below hb1 HT2.out.2)
            replace KX2 := Aside0.mk (hp_below KX2.out hb1)
            replace KM := Aside0.mk (hp_below KM.out hb1)
            replace HA := Aside0.mk (HA.out.below hb1)
            replace HBV := Aside0.mk (HBV.out.below hb1)
            clear hb1
            refine hK.out _ _ ⟨(blk6 KM.out).1, (blk6 KM.out).2.1, (blk6 KM.out).2.2.1, (blk6 KM.out).2.2.2.1, (blk6 KM.out).2.2.2.2.1, (blk6 KM.out).2.2.2.2.2.1⟩ (fun hHeld => ?_)
            clear hK K
            refine norm_ (a' := ?_) ?_ ?_
            rotate_left
            · show Act.put _ (some 6) _ = _
              simp only [Act.put, List.setIfInBounds_toArray, List.set_cons_zero, List.set_cons_succ, i64_w, i32_w]
              rfl
            refine one_ (i := 6) (N := some 5) #[true, true, true, true, true, true, true, true, false, false] rfl rfl (by kernel_rfl) (by decide) (fun K hK => ?_)
            refine value_ (w1 := ?_) (v := ?_) (by rfl) rfl ?_ ?_
            rotate_left 2
            · go_simp
              constructor
              · rfl
              · rfl
            have hb1 : Below (wc5.alloc (.cells #[.int .u64 0, .int .i64 0, .int .i64 0, .bool false, .slice none 0 0, .int .i64 0] 28)).heap.size (wc5.alloc (.cells #[.int .u64 0, .int .i64 0, .int .i64 0, .bool false, .slice none 0 0, .int .i64 0] 28)) ((wc5.alloc (.cells #[.int .u64 0, .int .i64 0, .int .i64 0, .bool false, .slice none 0 0, .int .i64 0] 28)).alloc (.cells #[.int .u64 0, .int .i64 0, .int .i64 0, .bool false, .slice none 0 0, .int .i64 0] 28)) := below_alloc (Below.refl (wc5.alloc (.cells #[.int .u64 0, .int .i64 0, .int .i64 0, .bool false, .slice none 0 0, .int .i64 0] 28)).heap.size (wc5.alloc (.cells #[.int .u64 0, .int .i64 0, .int .i64 0, .bool false, .slice none 0 0, .int .i64 0] 28))) (.cells #[.int .u64 0, .int .i64 0, .int .i64 0, .bool false, .slice none 0 0, .int .i64 0] 28)
            have HGG := Aside0.mk (show wc5.heap.size < wc5.heap.size + 1 from by first | omega | exact hp_lt KG6.out | fail)
            have HNE : Aside0 (wc5.heap.size + 1 ≠ wc5.heap.size) := ⟨by have := HGG.out; omega⟩
            have KG5 := Aside0.mk (show hp ((wc5.alloc (.cells #[.int .u64 0, .int .i64 0, .int .i64 0, .bool false, .slice none 0 0, .int .i64 0] 28)).alloc (.cells #[.int .u64 0, .int .i64 0, .int .i64 0, .bool false, .slice none 0 0, .int .i64 0] 28)) (wc5.heap.size + 1) = some (.cells #[.int .u64 0, .int .i64 0, .int .i64 0, .bool false, .slice none 0 0, .int .i64 0] 28 (0, 0)) from (by simp (disch := first | omega | (simp; omega) | (simp; done) | fail) [hp_new, hp_old, hp_here, hp_other, setObj_cells, hp_drew, hp_drewN]))
            have KG5b := Aside0.mk (show w2.heap.size < wc5.heap.size + 1 from by first | omega | exact hp_lt KM.out | (have := KG6b.out; omega) | fail)
            replace HB0 := Aside0.mk (below_step HB0.out hb1)
            replace HRM := Aside0.mk (HRM.out.below hb1)
            replace HT2 := Aside0.mk (HT2.out.below hb1 HT2.out.2)
            replace KX2 := Aside0.mk (hp_below KX2.out hb1)
            replace KM := Aside0.mk (hp_below KM.out hb1)
            replace HA := Aside0.mk (HA.out.below hb1)
            replace HBV := Aside0.mk (HBV.out.below hb1)
            replace KG6 := Aside0.mk (hp_below KG6.out hb1)
            clear hb1
            refine hK.out _ _ ⟨(blk6 KM.out).1, (blk6 KM.out).2.1, (blk6 KM.out).2.2.1, (blk6 KM.out).2.2.2.1, (blk6 KM.out).2.2.2.2.1, (blk6 KM.out).2.2.2.2.2.1⟩ (fun hHeld => ?_)
            clear hK K
            refine norm_ (a' := ?_) ?_ ?_
            rotate_left
            · show Act.put _ (some 5) _ = _
              simp only [Act.put, List.setIfInBounds_toArray, List.set_cons_zero, List.set_cons_succ, i64_w, i32_w]
              rfl
            exact norm_ (by simp only [putAll, Act.put, List.setIfInBounds_toArray, List.set_cons_zero, List.set_cons_succ]) (hCont (A3, n3, k3, A4, n4, k4, wc5.heap.size + 1, wc5.heap.size) _ ⟨HA.out, HBV.out, KG5.out, KG6.out, HNE.out, KG5b.out, KG6b.out, HB0.out, KX2.out, KM.out⟩)
        · skip
          refine value_ (w1 := ?_) (v := ?_) (by rfl) rfl ?_ ?_
          rotate_left 2
          · go_simp
            constructor
            · rfl
            · rfl
          have hb1 : Below wc2.heap.size wc2 (wc2.alloc (.cells #[.int .u64 0, .int .i64 0, .int .i64 0, .bool false, .slice none 0 0, .int .i64 0] 28)) := below_alloc (Below.refl wc2.heap.size wc2) (.cells #[.int .u64 0, .int .i64 0, .int .i64 0, .bool false, .slice none 0 0, .int .i64 0] 28)
          have KG5 := Aside0.mk (show hp (wc2.alloc (.cells #[.int .u64 0, .int .i64 0, .int .i64 0, .bool false, .slice none 0 0, .int .i64 0] 28)) (wc2.heap.size) = some (.cells #[.int .u64 0, .int .i64 0, .int .i64 0, .bool false, .slice none 0 0, .int .i64 0] 28 (0, 0)) from (by simp (disch := first | omega | (simp; omega) | (simp; done) | fail) [hp_new, hp_old, hp_here, hp_other, setObj_cells, hp_drew, hp_drewN]))
          have KG5b := Aside0.mk (show w2.heap.size < wc2.heap.size from by first | omega | exact hp_lt KM.out | (have := KG6b.out; omega) | fail)
          replace HB0 := Aside0.mk (below_step HB0.out hb1)
          replace HRM := Aside0.mk (HRM.out.below hb1)
          replace HT2 := Aside0.mk (HT2.out.below hb1 HT2.out.2)
          replace KX2 := Aside0.mk (hp_below KX2.out hb1)
          replace KM := Aside0.mk (hp_below KM.out hb1)
          replace HA := Aside0.mk (HA.out.below hb1)
          clear hb1
          refine hK.out _ _ ⟨(blk6 KM.out).1, (blk6 KM.out).2.1, (blk6 KM.out).2.2.1, (blk6 KM.out).2.2.2.1, (blk6 KM.out).2.2.2.2.1, (blk6 KM.out).2.2.2.2.2.1⟩ (fun hHeld => ?_)
          clear hK K
          refine norm_ (a' := ?_) ?_ ?_
          rotate_left
          · show Act.put _ (some 5) _ = _
            simp only [Act.put, List.setIfInBounds_toArray, List.set_cons_zero, List.set_cons_succ, i64_w, i32_w]
            rfl
          refine two_ (i := 5) (j := 7) (Ni := some 23) (Nj := some 6) #[true, true, true, true, true, true, true, false, false, false] #[true, true, true, true, true, false, true, true, false, false] rfl rfl rfl rfl (by kernel_rfl) (by decide) (by decide) (fun K hK => ?_) (fun K hK => ?_)
          · skip
            refine goes_ Tryd.func26 (by kernel_rfl) rfl #[.bool true, .agg #[.int .u64 P, .int .i64 m, .int .i64 f, .bool neg, .slice A1 n1 k1, .int .i64 y], .int .i64 E] (by rfl) rfl rfl (by simp only [List.map_toArray, List.map_cons, List.map_nil]; rfl) ?_
            with_reducible refine (HJ1.out _ HRM.out HT2.out).mono ?_
            rintro e wc5 ⟨A4, n4, k4, rfl, hv, hb1⟩
            refine ⟨_, rfl, ?_⟩
            replace HB0 := Aside0.mk (below_step HB0.out hb1)
            replace HRM := Aside0.mk (HRM.out.below hb1)
            replace HT2 := Aside0.mk (HT2.out.below hb1 HT2.out.2)
            replace KX2 := Aside0.mk (hp_below KX2.out hb1)
            replace KM := Aside0.mk (hp_below KM.out hb1)
            replace HA := Aside0.mk (HA.out.below hb1)
            replace KG5 := Aside0.mk (hp_below KG5.out hb1)
            have HBV := Aside0.mk hv.wd
            clear hv hb1
            refine hK.out _ _ ⟨(blk6 KM.out).1, (blk6 KM.out).2.1, (blk6 KM.out).2.2.1, (blk6 KM.out).2.2.2.1, (blk6 KM.out).2.2.2.2.1, (blk6 KM.out).2.2.2.2.2.1⟩ (fun hHeld => ?_)
            clear hK K
            refine norm_ (a' := ?_) ?_ ?_
            rotate_left
            · show Act.put _ (some 23) _ = _
              simp only [Act.put, List.setIfInBounds_toArray, List.set_cons_zero, List.set_cons_succ, i64_w, i32_w]
              rfl
            refine one_ (i := 7) (N := some 6) #[true, true, true, true, true, true, true, true, false, false] rfl rfl (by kernel_rfl) (by decide) (fun K hK => ?_)
            refine value_ (w1 := ?_) (v := ?_) (by rfl) rfl ?_ ?_
            rotate_left 2
            · go_simp
              constructor
              · rfl
              · rfl
            have hb1 : Below wc5.heap.size wc5 (wc5.alloc (.cells #[.int .u64 0, .int .i64 0, .int .i64 0, .bool false, .slice none 0 0, .int .i64 0] 28)) := below_alloc (Below.refl wc5.heap.size wc5) (.cells #[.int .u64 0, .int .i64 0, .int .i64 0, .bool false, .slice none 0 0, .int .i64 0] 28)
            have HGG := Aside0.mk (show wc2.heap.size < wc5.heap.size from by first | omega | exact hp_lt KG5.out | fail)
            have HNE : Aside0 (wc2.heap.size ≠ wc5.heap.size) := ⟨by have := HGG.out; omega⟩
            have KG6 := Aside0.mk (show hp (wc5.alloc (.cells #[.int .u64 0, .int .i64 0, .int .i64 0, .bool false, .slice none 0 0, .int .i64 0] 28)) (wc5.heap.size) = some (.cells #[.int .u64 0, .int .i64 0, .int .i64 0, .bool false, .slice none 0 0, .int .i64 0] 28 (0, 0)) from (by simp (disch := first | omega | (simp; omega) | (simp; done) | fail) [hp_new, hp_old, hp_here, hp_other, setObj_cells, hp_drew, hp_drewN]))
            have KG6b := Aside0.mk (show w2.heap.size < wc5.heap.size from by first | omega | exact hp_lt KM.out | (have := KG5b.out; omega) | fail)
            replace HB0 := Aside0.mk (below_step HB0.out hb1)
            replace HRM := Aside0.mk (HRM.out.below hb1)
            replace HT2 := Aside0.mk (HT2.out.below hb1 HT2.out.2)
            replace KX2 := Aside0.mk (hp_below KX2.out hb1)
            replace KM := Aside0.mk (hp_below KM.out hb1)
            replace HA := Aside0.mk (HA.out.below hb1)
            replace HBV := Aside0.mk (HBV.out.below hb1)
            replace KG5 := Aside0.mk (hp_below KG5.out hb1)
            clear hb1
            refine hK.out _ _ ⟨(blk6 KM.out).1, (blk6 KM.out).2.1, (blk6 KM.out).2.2.1, (blk6 KM.out).2.2.2.1, (blk6 KM.out).2.2.2.2.1, (blk6 KM.out).2.2.2.2.2.1⟩ (fun hHeld => ?_)
            clear hK K
            refine norm_ (a' := ?_) ?_ ?_
            rotate_left
            · show Act.put _ (some 6) _ = _
              simp only [Act.put, List.setIfInBounds_toArray, List.set_cons_zero, List.set_cons_succ, i64_w, i32_w]
              rfl
            exact norm_ (by simp only [putAll, Act.put, List.setIfInBounds_toArray, List.set_cons_zero, List.set_cons_succ]) (hCont (A3, n3, k3, A4, n4, k4, wc2.heap.size, wc5.heap.size) _ ⟨HA.out, HBV.out, KG5.out, KG6.out, HNE.out, KG5b.out, KG6b.out, HB0.out, KX2.out, KM.out⟩)
          · skip
            refine value_ (w1 := ?_) (v := ?_) (by rfl) rfl ?_ ?_
            rotate_left 2
            · go_simp
              constructor
              · rfl
              · rfl
            have hb1 : Below (wc2.alloc (.cells #[.int .u64 0, .int .i64 0, .int .i64 0, .bool false, .slice none 0 0, .int .i64 0] 28)).heap.size (wc2.alloc (.cells #[.int .u64 0, .int .i64 0, .int .i64 0, .bool false, .slice none 0 0, .int .i64 0] 28)) ((wc2.alloc (.cells #[.int .u64 0, .int .i64 0, .int .i64 0, .bool false, .slice none 0 0, .int .i64 0] 28)).alloc (.cells #[.int .u64 0, .int .i64 0, .int .i64 0, .bool false, .slice none 0 0, .int .i64 0] 28)) := below_alloc (Below.refl (wc2.alloc (.cells #[.int .u64 0, .int .i64 0, .int .i64 0, .bool false, .slice none 0 0, .int .i64 0] 28)).heap.size (wc2.alloc (.cells #[.int .u64 0, .int .i64 0, .int .i64 0, .bool false, .slice none 0 0, .int .i64 0] 28))) (.cells #[.int .u64 0, .int .i64 0, .int .i64 0, .bool false, .slice none 0 0, .int .i64 0] 28)
            have HGG := Aside0.mk (show wc2.heap.size < wc2.heap.size + 1 from by first | omega | exact hp_lt KG5.out | fail)
            have HNE : Aside0 (wc2.heap.size ≠ wc2.heap.size + 1) := ⟨by have := HGG.out; omega⟩
            have KG6 := Aside0.mk (show hp ((wc2.alloc (.cells #[.int .u64 0, .int .i64 0, .int .i64 0, .bool false, .slice none 0 0, .int .i64 0] 28)).alloc (.cells #[.int .u64 0, .int .i64 0, .int .i64 0, .bool false, .slice none 0 0, .int .i64 0] 28)) (wc2.heap.size + 1) = some (.cells #[.int .u64 0, .int .i64 0, .int .i64 0, .bool false, .slice none 0 0, .int .i64 0] 28 (0, 0)) from (by simp (disch := first | omega | (simp; omega) | (simp; done) | fail) [hp_new, hp_old, hp_here, hp_other, setObj_cells, hp_drew, hp_drewN]))
            have KG6b := Aside0.mk (show w2.heap.size < wc2.heap.size + 1 from by first | omega | exact hp_lt KM.out | (have := KG5b.out; omega) | fail)
            replace HB0 := Aside0.mk (below_step HB0.out hb1)
            replace HRM := Aside0.mk (HRM.out.below hb1)
            replace HT2 := Aside0.mk (HT2.out.below hb1 HT2.out.2)
            replace KX2 := Aside0.mk (hp_below KX2.out hb1)
            replace KM := Aside0.mk (hp_below KM.out hb1)
            replace HA := Aside0.mk (HA.out.below hb1)
            replace KG5 := Aside0.mk (hp_below KG5.out hb1)
            clear hb1
            refine hK.out _ _ ⟨(blk6 KM.out).1, (blk6 KM.out).2.1, (blk6 KM.out).2.2.1, (blk6 KM.out).2.2.2.1, (blk6 KM.out).2.2.2.2.1, (blk6 KM.out).2.2.2.2.2.1⟩ (fun hHeld => ?_)
            clear hK K
            refine norm_ (a' := ?_) ?_ ?_
            rotate_left
            · show Act.put _ (some 6) _ = _
              simp only [Act.put, List.setIfInBounds_toArray, List.set_cons_zero, List.set_cons_succ, i64_w, i32_w]
              rfl
            refine one_ (i := 5) (N := some 23) #[true, true, true, true, true, true, true, true, false, false] rfl rfl (by kernel_rfl) (by decide) (fun K hK => ?_)
            refine goes_ Tryd.func26 (by kernel_rfl) rfl #[.bool true, .agg #[.int .u64 P, .int .i64 m, .int .i64 f, .bool neg, .slice A1 n1 k1, .int .i64 y], .int .i64 E] (by rfl) rfl rfl (by simp only [List.map_toArray, List.map_cons, List.map_nil]; rfl) ?_
            with_reducible refine (HJ1.out _ HRM.out HT2.out).mono ?_
            rintro e wc5 ⟨A4, n4, k4, rfl, hv, hb1⟩
            refine ⟨_, rfl, ?_⟩
            replace HB0 := Aside0.mk (below_step HB0.out hb1)
            replace HRM := Aside0.mk (HRM.out.below hb1)
            replace HT2 := Aside0.mk (HT2.out.below hb1 HT2.out.2)
            replace KX2 := Aside0.mk (hp_below KX2.out hb1)
            replace KM := Aside0.mk (hp_below KM.out hb1)
            replace HA := Aside0.mk (HA.out.below hb1)
            replace KG5 := Aside0.mk (hp_below KG5.out hb1)
            replace KG6 := Aside0.mk (hp_below KG6.out hb1)
            have HBV := Aside0.mk hv.wd
            clear hv hb1
            refine hK.out _ _ ⟨(blk6 KM.out).1, (blk6 KM.out).2.1, (blk6 KM.out).2.2.1, (blk6 KM.out).2.2.2.1, (blk6 KM.out).2.2.2.2.1, (blk6 KM.out).2.2.2.2.2.1⟩ (fun hHeld => ?_)
            clear hK K
            refine norm_ (a' := ?_) ?_ ?_
            rotate_left
            · show Act.put _ (some 23) _ = _
              simp only [Act.put, List.setIfInBounds_toArray, List.set_cons_zero, List.set_cons_succ, i64_w, i32_w]
              rfl
            exact norm_ (by simp only [putAll, Act.put, List.setIfInBounds_toArray, List.set_cons_zero, List.set_cons_succ]) (hCont (A3, n3, k3, A4, n4, k4, wc2.heap.size, wc2.heap.size + 1) _ ⟨HA.out, HBV.out, KG5.out, KG6.out, HNE.out, KG5b.out, KG6b.out, HB0.out, KX2.out, KM.out⟩)
        · skip
          refine value_ (w1 := ?_) (v := ?_) (by rfl) rfl ?_ ?_
          rotate_left 2
          · go_simp
            constructor
            · rfl
            · rfl
          have hb1 : Below wc2.heap.size wc2 (wc2.alloc (.cells #[.int .u64 0, .int .i64 0, .int .i64 0, .bool false, .slice none 0 0, .int .i64 0] 28)) := below_alloc (Below.refl wc2.heap.size wc2) (.cells #[.int .u64 0, .int .i64 0, .int .i64 0, .bool false, .slice none 0 0, .int .i64 0] 28)
          have KG6 := Aside0.mk (show hp (wc2.alloc (.cells #[.int .u64 0, .int .i64 0, .int .i64 0, .bool false, .slice none 0 0, .int .i64 0] 28)) (wc2.heap.size) = some (.cells #[.int .u64 0, .int .i64 0, .int .i64 0, .bool false, .slice none 0 0, .int .i64 0] 28 (0, 0)) from (by simp (disch := first | omega | (simp; omega) | (simp; done) | fail) [hp_new, hp_old, hp_here, hp_other, setObj_cells, hp_drew, hp_drewN]))
          have KG6b := Aside0.mk (show w2.heap.size < wc2.heap.size from by first | omega | exact hp_lt KM.out | (have := KG5b.out; omega) | fail)
          replace HB0 := Aside0.mk (below_step HB0.out hb1)
          replace HRM := Aside0.mk (HRM.out.below hb1)
          replace HT2 := Aside0.mk (HT2.out.below hb1 HT2.out.2)
          replace KX2 := Aside0.mk (hp_below KX2.out hb1)
          replace KM := Aside0.mk (hp_below KM.out hb1)
          replace HA := Aside0.mk (HA.out.below hb1)
          clear hb1
          refine hK.out _ _ ⟨(blk6 KM.out).1, (blk6 KM.out).2.1, (blk6 KM.out).2.2.1, (blk6 KM.out).2.2.2.1, (blk6 KM.out).2.2.2.2.1, (blk6 KM.out).2.2.2.2.2.1⟩ (fun hHeld => ?_)
          clear hK K
          refine norm_ (a' := ?_) ?_ ?_
          rotate_left
          · show Act.put _ (some 6) _ = _
            simp only [Act.put, List.setIfInBounds_toArray, List.set_cons_zero, List.set_cons_succ, i64_w, i32_w]
            rfl
          refine two_ (i := 5) (j := 6) (Ni := some 23) (Nj := some 5) #[true, true, true, true, true, true, false, true, false, false] #[true, true, true, true, true, false, true, true, false, false] rfl rfl rfl rfl (by kernel_rfl) (by decide) (by decide) (fun K hK => ?_) (fun K hK => ?_)
          · skip
            refine goes_ Tryd.func26 (by kernel_rfl) rfl #[.bool true, .agg #[.int .u64 P, .int .i64 m, .int .i64 f, .bool neg, .slice A1 n1 k1, .int .i64 y], .int .i64 E] (by rfl) rfl rfl (by simp only [List.map_toArray, List.map_cons, List.map_nil]; rfl) ?_
            with_reducible refine (HJ1.out _ HRM.out HT2.out).mono ?_
            rintro e wc5 ⟨A4, n4, k4, rfl, hv, hb1⟩
            refine ⟨_, rfl, ?_⟩
            replace HB0 := Aside0.mk (below_step HB0.out hb1)
            replace HRM := Aside0.mk (HRM.out.below hb1)
            replace HT2 := Aside0.mk (HT2.out.below hb1 HT2.out.2)
            replace KX2 := Aside0.mk (hp_below KX2.out hb1)
            replace KM := Aside0.mk (hp_below KM.out hb1)
            replace HA := Aside0.mk (HA.out.below hb1)
            replace KG6 := Aside0.mk (hp_below KG6.out hb1)
            have HBV := Aside0.mk hv.wd
            clear hv hb1
            refine hK.out _ _ ⟨(blk6 KM.out).1, (blk6 KM.out).2.1, (blk6 KM.out).2.2.1, (blk6 KM.out).2.2.2.1, (blk6 KM.out).2.2.2.2.1, (blk6 KM.out).2.2.2.2.2.1⟩ (fun hHeld => ?_)
            clear hK K
            refine norm_ (a' := ?_) ?_ ?_
            rotate_left
            · show Act.put _ (some 23) _ = _
              simp only [Act.put, List.setIfInBounds_toArray, List.set_cons_zero, List.set_cons_succ, i64_w, i32_w]
              rfl
            refine one_ (i := 6) (N := some 5) #[true, true, true, true, true, true, true, true, false, false] rfl rfl (by kernel_rfl) (by decide) (fun K hK => ?_)
            refine value_ (w1 := ?_) (v := ?_) (by rfl) rfl ?_ ?_
            rotate_left 2
            · go_simp
              constructor
              · rfl
              · rfl
            have hb1 : Below wc5.heap.size wc5 (wc5.alloc (.cells #[.int .u64 0, .int .i64 0, .int .i64 0, .bool false, .slice none 0 0, .int .i64 0] 28)) := below_alloc (Below.refl wc5.heap.size wc5) (.cells #[.int .u64 0, .int .i64 0, .int .i64 0, .bool false, .slice none 0 0, .int .i64 0] 28)
            have HGG := Aside0.mk (show wc2.heap.size < wc5.heap.size from by first | omega | exact hp_lt KG6.out | fail)
            have HNE : Aside0 (wc5.heap.size ≠ wc2.heap.size) := ⟨by have := HGG.out; omega⟩
            have KG5 := Aside0.mk (show hp (wc5.alloc (.cells #[.int .u64 0, .int .i64 0, .int .i64 0, .bool false, .slice none 0 0, .int .i64 0] 28)) (wc5.heap.size) = some (.cells #[.int .u64 0, .int .i64 0, .int .i64 0, .bool false, .slice none 0 0, .int .i64 0] 28 (0, 0)) from (by simp (disch := first | omega | (simp; omega) | (simp; done) | fail) [hp_new, hp_old, hp_here, hp_other, setObj_cells, hp_drew, hp_drewN]))
            have KG5b := Aside0.mk (show w2.heap.size < wc5.heap.size from by first | omega | exact hp_lt KM.out | (have := KG6b.out; omega) | fail)
            replace HB0 := Aside0.mk (below_step HB0.out hb1)
            replace HRM := Aside0.mk (HRM.out.below hb1)
            replace HT2 := Aside0.mk (HT2.out.below hb1 HT2.out.2)
            replace KX2 := Aside0.mk (hp_below KX2.out hb1)
            replace KM := Aside0.mk (hp_below KM.out hb1)
            replace HA := Aside0.mk (HA.out.below hb1)
            replace HBV := Aside0.mk (HBV.out.below hb1)
            replace KG6 := Aside0.mk (hp_below KG6.out hb1)
            clear hb1
            refine hK.out _ _ ⟨(blk6 KM.out).1, (blk6 KM.out).2.1, (blk6 KM.out).2.2.1, (blk6 KM.out).2.2.2.1, (blk6 KM.out).2.2.2.2.1, (blk6 KM.out).2.2.2.2.2.1⟩ (fun hHeld => ?_)
            clear hK K
            refine norm_ (a' := ?_) ?_ ?_
            rotate_left
            · show Act.put _ (some 5) _ = _
              simp only [Act.put, List.setIfInBounds_toArray, List.set_cons_zero, List.set_cons_succ, i64_w, i32_w]
              rfl
            exact norm_ (by simp only [putAll, Act.put, List.setIfInBounds_toArray, List.set_cons_zero, List.set_cons_succ]) (hCont (A3, n3, k3, A4, n4, k4, wc5.heap.size, wc2.heap.size) _ ⟨HA.out, HBV.out, KG5.out, KG6.out, HNE.out, KG5b.out, KG6b.out, HB0.out, KX2.out, KM.out⟩)
          · skip
            refine value_ (w1 := ?_) (v := ?_) (by rfl) rfl ?_ ?_
            rotate_left 2
            · go_simp
              constructor
              · rfl
              · rfl
            have hb1 : Below (wc2.alloc (.cells #[.int .u64 0, .int .i64 0, .int .i64 0, .bool false, .slice none 0 0, .int .i64 0] 28)).heap.size (wc2.alloc (.cells #[.int .u64 0, .int .i64 0, .int .i64 0, .bool false, .slice none 0 0, .int .i64 0] 28)) ((wc2.alloc (.cells #[.int .u64 0, .int .i64 0, .int .i64 0, .bool false, .slice none 0 0, .int .i64 0] 28)).alloc (.cells #[.int .u64 0, .int .i64 0, .int .i64 0, .bool false, .slice none 0 0, .int .i64 0] 28)) := below_alloc (Below.refl (wc2.alloc (.cells #[.int .u64 0, .int .i64 0, .int .i64 0, .bool false, .slice none 0 0, .int .i64 0] 28)).heap.size (wc2.alloc (.cells #[.int .u64 0, .int .i64 0, .int .i64 0, .bool false, .slice none 0 0, .int .i64 0] 28))) (.cells #[.int .u64 0, .int .i64 0, .int .i64 0, .bool false, .slice none 0 0, .int .i64 0] 28)
            have HGG := Aside0.mk (show wc2.heap.size < wc2.heap.size + 1 from by first | omega | exact hp_lt KG6.out | fail)
            have HNE : Aside0 (wc2.heap.size + 1 ≠ wc2.heap.size) := ⟨by have := HGG.out; omega⟩
            have KG5 := Aside0.mk (show hp ((wc2.alloc (.cells #[.int .u64 0, .int .i64 0, .int .i64 0, .bool false, .slice none 0 0, .int .i64 0] 28)).alloc (.cells #[.int .u64 0, .int .i64 0, .int .i64 0, .bool false, .slice none 0 0, .int .i64 0] 28)) (wc2.heap.size + 1) = some (.cells #[.int .u64 0, .int .i64 0, .int .i64 0, .bool false, .slice none 0 0, .int .i64 0] 28 (0, 0)) from (by simp (disch := first | omega | (simp; omega) | (simp; done) | fail) [hp_new, hp_old, hp_here, hp_other, setObj_cells, hp_drew, hp_drewN]))
            have KG5b := Aside0.mk (show w2.heap.size < wc2.heap.size + 1 from by first | omega | exact hp_lt KM.out | (have := KG6b.out; omega) | fail)
            replace HB0 := Aside0.mk (below_step HB0.out hb1)
            replace HRM := Aside0.mk (HRM.out.below hb1)
            replace HT2 := Aside0.mk (HT2.out.below hb1 HT2.out.2)
            replace KX2 := Aside0.mk (hp_below KX2.out hb1)
            replace KM := Aside0.mk (hp_below KM.out hb1)
            replace HA := Aside0.mk (HA.out.below hb1)
            replace KG6 := Aside0.mk (hp_below KG6.out hb1)
            clear hb1
            refine hK.out _ _ ⟨(blk6 KM.out).1, (blk6 KM.out).2.1, (blk6 KM.out).2.2.1, (blk6 KM.out).2.2.2.1, (blk6 KM.out).2.2.2.2.1, (blk6 KM.out).2.2.2.2.2.1⟩ (fun hHeld => ?_)
            clear hK K
            refine norm_ (a' := ?_) ?_ ?_
            rotate_left
            · show Act.put _ (some 5) _ = _
              simp only [Act.put, List.setIfInBounds_toArray, List.set_cons_zero, List.set_cons_succ, i64_w, i32_w]
              rfl
            refine one_ (i := 5) (N := some 23) #[true, true, true, true, true, true, true, true, false, false] rfl rfl (by kernel_rfl) (by decide) (fun K hK => ?_)
            refine goes_ Tryd.func26 (by kernel_rfl) rfl #[.bool true, .agg #[.int .u64 P, .int .i64 m, .int .i64 f, .bool neg, .slice A1 n1 k1, .int .i64 y], .int .i64 E] (by rfl) rfl rfl (by simp only [List.map_toArray, List.map_cons, List.map_nil]; rfl) ?_
            with_reducible refine (HJ1.out _ HRM.out HT2.out).mono ?_
            rintro e wc5 ⟨A4, n4, k4, rfl, hv, hb1⟩
            refine ⟨_, rfl, ?_⟩
            replace HB0 := Aside0.mk (below_step HB0.out hb1)
            replace HRM := Aside0.mk (HRM.out.below hb1)
            replace HT2 := Aside0.mk (HT2.out.below hb1 HT2.out.2)
            replace KX2 := Aside0.mk (hp_below KX2.out hb1)
            replace KM := Aside0.mk (hp_below KM.out hb1)
            replace HA := Aside0.mk (HA.out.below hb1)
            replace KG5 := Aside0.mk (hp_below KG5.out hb1)
            replace KG6 := Aside0.mk (hp_below KG6.out hb1)
            have HBV := Aside0.mk hv.wd
            clear hv hb1
            refine hK.out _ _ ⟨(blk6 KM.out).1, (blk6 KM.out).2.1, (blk6 KM.out).2.2.1, (blk6 KM.out).2.2.2.1, (blk6 KM.out).2.2.2.2.1, (blk6 KM.out).2.2.2.2.2.1⟩ (fun hHeld => ?_)
            clear hK K
            refine norm_ (a' := ?_) ?_ ?_
            rotate_left
            · show Act.put _ (some 23) _ = _
              simp only [Act.put, List.setIfInBounds_toArray, List.set_cons_zero, List.set_cons_succ, i64_w, i32_w]
              rfl
            exact norm_ (by simp only [putAll, Act.put, List.setIfInBounds_toArray, List.set_cons_zero, List.set_cons_succ]) (hCont (A3, n3, k3, A4, n4, k4, wc2.heap.size + 1, wc2.heap.size) _ ⟨HA.out, HBV.out, KG5.out, KG6.out, HNE.out, KG5b.out, KG6b.out, HB0.out, KX2.out, KM.out⟩)
      · skip
        refine value_ (w1 := ?_) (v := ?_) (by rfl) rfl ?_ ?_
        rotate_left 2
        · go_simp
          constructor
          · rfl
          · rfl
        have hb1 : Below w3.drew.heap.size w3.drew (w3.alloc (.cells #[.int .u64 0, .int .i64 0, .int .i64 0, .bool false, .slice none 0 0, .int .i64 0] 28)).drew := below_alloc (Below.refl w3.drew.heap.size w3.drew) (.cells #[.int .u64 0, .int .i64 0, .int .i64 0, .bool false, .slice none 0 0, .int .i64 0] 28)
        have KG5 := Aside0.mk (show hp (w3.alloc (.cells #[.int .u64 0, .int .i64 0, .int .i64 0, .bool false, .slice none 0 0, .int .i64 0] 28)).drew (w3.heap.size) = some (.cells #[.int .u64 0, .int .i64 0, .int .i64 0, .bool false, .slice none 0 0, .int .i64 0] 28 (0, 0)) from (by simp (disch := first | omega | (simp; omega) | (simp; done) | fail) [hp_new, hp_old, hp_here, hp_other, setObj_cells, hp_drew, hp_drewN]))
        have KG5b := Aside0.mk (show w2.heap.size < w3.heap.size from by first | omega | exact hp_lt KM.out | (have := KG6b.out; omega) | fail)
        replace HB0 := Aside0.mk (below_step HB0.out hb1)
        replace HRM := Aside0.mk (HRM.out.below hb1)
        replace HT2 := Aside0.mk (HT2.out.below hb1 HT2.out.2)
        replace KX2 := Aside0.mk (hp_below KX2.out hb1)
        replace KM := Aside0.mk (hp_below KM.out hb1)
        clear hb1
        refine hK.out _ _ ⟨(blk6 KM.out).1, (blk6 KM.out).2.1, (blk6 KM.out).2.2.1, (blk6 KM.out).2.2.2.1, (blk6 KM.out).2.2.2.2.1, (blk6 KM.out).2.2.2.2.2.1⟩ (fun hHeld => ?_)
        clear hK K
        refine norm_ (a' := ?_) ?_ ?_
        rotate_left
        · show Act.put _ (some 5) _ = _
          simp only [Act.put, List.setIfInBounds_toArray, List.set_cons_zero, List.set_cons_succ, i64_w, i32_w]
          rfl
        refine two_ (i := 2) (j := 7) (Ni := some 20) (Nj := some 6) #[true, true, true, true, true, false, true, false, false, false] #[true, true, false, true, true, false, true, true, false, false] rfl rfl rfl rfl (by kernel_rfl) (by decide) (by decide) (fun K hK => ?_) (fun K hK => ?_)
        · skip
          refine goes_ Tryd.func26 (by kernel_rfl) rfl #[.bool false, .agg #[.int .u64 P, .int .i64 m, .int .i64 f, .bool neg, .slice A1 n1 k1, .int .i64 y], .int .i64 E] (by rfl) rfl rfl (by simp only [List.map_toArray, List.map_cons, List.map_nil]; rfl) ?_
          with_reducible refine (HJ0.out _ HRM.out HT2.out).mono ?_
          rintro e wc2 ⟨A3, n3, k3, rfl, hv, hb1⟩
          refine ⟨_, rfl, ?_⟩
          replace HB0 := Aside0.mk (below_step HB0.out hb1)
          replace HRM := Aside0.mk (HRM.out.below hb1)
          replace HT2 := Aside0.mk (HT2.out.below hb1 HT2.out.2)
          replace KX2 := Aside0.mk (hp_below KX2.out hb1)
          replace KM := Aside0.mk (hp_below KM.out hb1)
          replace KG5 := Aside0.mk (hp_below KG5.out hb1)
          have HA := Aside0.mk hv.wd
          clear hv hb1
          refine hK.out _ _ ⟨(blk6 KM.out).1, (blk6 KM.out).2.1, (blk6 KM.out).2.2.1, (blk6 KM.out).2.2.2.1, (blk6 KM.out).2.2.2.2.1, (blk6 KM.out).2.2.2.2.2.1⟩ (fun hHeld => ?_)
          clear hK K
          refine norm_ (a' := ?_) ?_ ?_
          rotate_left
          · show Act.put _ (some 20) _ = _
            simp only [Act.put, List.setIfInBounds_toArray, List.set_cons_zero, List.set_cons_succ, i64_w, i32_w]
            rfl
          refine two_ (i := 5) (j := 7) (Ni := some 23) (Nj := some 6) #[true, true, true, true, true, true, true, false, false, false] #[true, true, true, true, true, false, true, true, false, false] rfl rfl rfl rfl (by kernel_rfl) (by decide) (by decide) (fun K hK => ?_) (fun K hK => ?_)
          · skip
            refine goes_ Tryd.func26 (by kernel_rfl) rfl #[.bool true, .agg #[.int .u64 P, .int .i64 m, .int .i64 f, .bool neg, .slice A1 n1 k1, .int .i64 y], .int .i64 E] (by rfl) rfl rfl (by simp only [List.map_toArray, List.map_cons, List.map_nil]; rfl) ?_
            with_reducible refine (HJ1.out _ HRM.out HT2.out).mono ?_
            rintro e wc5 ⟨A4, n4, k4, rfl, hv, hb1⟩
            refine ⟨_, rfl, ?_⟩
            replace HB0 := Aside0.mk (below_step HB0.out hb1)
            replace HRM := Aside0.mk (HRM.out.below hb1)
            replace HT2 := Aside0.mk (HT2.out.below hb1 HT2.out.2)
            replace KX2 := Aside0.mk (hp_below KX2.out hb1)
            replace KM := Aside0.mk (hp_below KM.out hb1)
            replace HA := Aside0.mk (HA.out.below hb1)
            replace KG5 := Aside0.mk (hp_below KG5.out hb1)
            have HBV := Aside0.mk hv.wd
            clear hv hb1
            refine hK.out _ _ ⟨(blk6 KM.out).1, (blk6 KM.out).2.1, (blk6 KM.out).2.2.1, (blk6 KM.out).2.2.2.1, (blk6 KM.out).2.2.2.2.1, (blk6 KM.out).2.2.2.2.2.1⟩ (fun hHeld => ?_)
            clear hK K
            refine norm_ (a' := ?_) ?_ ?_
            rotate_left
            · show Act.put _ (some 23) _ = _
              simp only [Act.put, List.setIfInBounds_toArray, List.set_cons_zero, List.set_cons_succ, i64_w, i32_w]
              rfl
            refine one_ (i := 7) (N := some 6) #[true, true, true, true, true, true, true, true, false, false] rfl rfl (by kernel_rfl) (by decide) (fun K hK => ?_)
            refine value_ (w1 := ?_) (v := ?_) (by rfl) rfl ?_ ?_
            rotate_left 2
            · go_simp
              constructor
              · rfl
              · rfl
            have hb1 : Below wc5.heap.size wc5 (wc5.alloc (.cells #[.int .u64 0, .int .i64 0, .int .i64 0, .bool false, .slice none 0 0, .int .i64 0] 28)) := below_alloc (Below.refl wc5.heap.size wc5) (.cells #[.int .u64 0, .int .i64 0, .int .i64 0, .bool false, .slice none 0 0, .int .i64 0] 28)
            have HGG := Aside0.mk (show w3.heap.size < wc5.heap.size from by first | omega | exact hp_lt KG5.out | fail)
            have HNE : Aside0 (w3.heap.size ≠ wc5.heap.size) := ⟨by have := HGG.out; omega⟩
            have KG6 := Aside0.mk (show hp (wc5.alloc (.cells #[.int .u64 0, .int .i64 0, .int .i64 0, .bool false, .slice none 0 0, .int .i64 0] 28)) (wc5.heap.size) = some (.cells #[.int .u64 0, .int .i64 0, .int .i64 0, .bool false, .slice none 0 0, .int .i64 0] 28 (0, 0)) from (by simp (disch := first | omega | (simp; omega) | (simp; done) | fail) [hp_new, hp_old, hp_here, hp_other, setObj_cells, hp_drew, hp_drewN]))
            have KG6b := Aside0.mk (show w2.heap.size < wc5.heap.size from by first | omega | exact hp_lt KM.out | (have := KG5b.out; omega) | fail)
            replace HB0 := Aside0.mk (below_step HB0.out hb1)
            replace HRM := Aside0.mk (HRM.out.below hb1)
            replace HT2 := Aside0.mk (HT2.out.below hb1 HT2.out.2)
            replace KX2 := Aside0.mk (hp_below KX2.out hb1)
            replace KM := Aside0.mk (hp_below KM.out hb1)
            replace HA := Aside0.mk (HA.out.below hb1)
            replace HBV := Aside0.mk (HBV.out.below hb1)
            replace KG5 := Aside0.mk (hp_below KG5.out hb1)
            clear hb1
            refine hK.out _ _ ⟨(blk6 KM.out).1, (blk6 KM.out).2.1, (blk6 KM.out).2.2.1, (blk6 KM.out).2.2.2.1, (blk6 KM.out).2.2.2.2.1, (blk6 KM.out).2.2.2.2.2.1⟩ (fun hHeld => ?_)
            clear hK K
            refine norm_ (a' := ?_) ?_ ?_
            rotate_left
            · show Act.put _ (some 6) _ = _
              simp only [Act.put, List.setIfInBounds_toArray, List.set_cons_zero, List.set_cons_succ, i64_w, i32_w]
              rfl
            exact norm_ (by simp only [putAll, Act.put, List.setIfInBounds_toArray, List.set_cons_zero, List.set_cons_succ]) (hCont (A3, n3, k3, A4, n4, k4, w3.heap.size, wc5.heap.size) _ ⟨HA.out, HBV.out, KG5.out, KG6.out, HNE.out, KG5b.out, KG6b.out, HB0.out, KX2.out, KM.out⟩)
          · skip
            refine value_ (w1 := ?_) (v := ?_) (by rfl) rfl ?_ ?_
            rotate_left 2
            · go_simp
              constructor
              · rfl
              · rfl
            have hb1 : Below wc2.heap.size wc2 (wc2.alloc (.cells #[.int .u64 0, .int .i64 0, .int .i64 0, .bool false, .slice none 0 0, .int .i64 0] 28)) := below_alloc (Below.refl wc2.heap.size wc2) (.cells #[.int .u64 0, .int .i64 0, .int .i64 0, .bool false, .slice none 0 0, .int .i64 0] 28)
            have HGG := Aside0.mk (show w3.heap.size < wc2.heap.size from by first | omega | exact hp_lt KG5.out | fail)
            have HNE : Aside0 (w3.heap.size ≠ wc2.heap.size) := ⟨by have := HGG.out; omega⟩
            have KG6 := Aside0.mk (show hp (wc2.alloc (.cells #[.int .u64 0, .int .i64 0, .int .i64 0, .bool false, .slice none 0 0, .int .i64 0] 28)) (wc2.heap.size) = some (.cells #[.int .u64 0, .int .i64 0, .int .i64 0, .bool false, .slice none 0 0, .int .i64 0] 28 (0, 0)) from (by simp (disch := first | omega | (simp; omega) | (simp; done) | fail) [hp_new, hp_old, hp_here, hp_other, setObj_cells, hp_drew, hp_drewN]))
            have KG6b := Aside0.mk (show w2.heap.size < wc2.heap.size from by first | omega | exact hp_lt KM.out | (have := KG5b.out; omega) | fail)
            replace HB0 := Aside0.mk (below_step HB0.out hb1)
            replace HRM := Aside0.mk (HRM.out.below hb1)
            replace HT2 := Aside0.mk (HT2.out.below hb1 HT2.out.2)
            replace KX2 := Aside0.mk (hp_below KX2.out hb1)
            replace KM := Aside0.mk (hp_below KM.out hb1)
            replace HA := Aside0.mk (HA.out.below hb1)
            replace KG5 := Aside0.mk (hp_below KG5.out hb1)
            clear hb1
            refine hK.out _ _ ⟨(blk6 KM.out).1, (blk6 KM.out).2.1, (blk6 KM.out).2.2.1, (blk6 KM.out).2.2.2.1, (blk6 KM.out).2.2.2.2.1, (blk6 KM.out).2.2.2.2.2.1⟩ (fun hHeld => ?_)
            clear hK K
            refine norm_ (a' := ?_) ?_ ?_
            rotate_left
            · show Act.put _ (some 6) _ = _
              simp only [Act.put, List.setIfInBounds_toArray, List.set_cons_zero, List.set_cons_succ, i64_w, i32_w]
              rfl
            refine one_ (i := 5) (N := some 23) #[true, true, true, true, true, true, true, true, false, false] rfl rfl (by kernel_rfl) (by decide) (fun K hK => ?_)
            refine goes_ Tryd.func26 (by kernel_rfl) rfl #[.bool true, .agg #[.int .u64 P, .int .i64 m, .int .i64 f, .bool neg, .slice A1 n1 k1, .int .i64 y], .int .i64 E] (by rfl) rfl rfl (by simp only [List.map_toArray, List.map_cons, List.map_nil]; rfl) ?_
            with_reducible refine (HJ1.out _ HRM.out HT2.out).mono ?_
            rintro e wc5 ⟨A4, n4, k4, rfl, hv, hb1⟩
            refine ⟨_, rfl, ?_⟩
            replace HB0 := Aside0.mk (below_step HB0.out hb1)
            replace HRM := Aside0.mk (HRM.out.below hb1)
            replace HT2 := Aside0.mk (HT2.out.below hb1 HT2.out.2)
            replace KX2 := Aside0.mk (hp_below KX2.out hb1)
            replace KM := Aside0.mk (hp_below KM.out hb1)
            replace HA := Aside0.mk (HA.out.below hb1)
            replace KG5 := Aside0.mk (hp_below KG5.out hb1)
            replace KG6 := Aside0.mk (hp_below KG6.out hb1)
            have HBV := Aside0.mk hv.wd
            clear hv hb1
            refine hK.out _ _ ⟨(blk6 KM.out).1, (blk6 KM.out).2.1, (blk6 KM.out).2.2.1, (blk6 KM.out).2.2.2.1, (blk6 KM.out).2.2.2.2.1, (blk6 KM.out).2.2.2.2.2.1⟩ (fun hHeld => ?_)
            clear hK K
            refine norm_ (a' := ?_) ?_ ?_
            rotate_left
            · show Act.put _ (some 23) _ = _
              simp only [Act.put, List.setIfInBounds_toArray, List.set_cons_zero, List.set_cons_succ, i64_w, i32_w]
              rfl
            exact norm_ (by simp only [putAll, Act.put, List.setIfInBounds_toArray, List.set_cons_zero, List.set_cons_succ]) (hCont (A3, n3, k3, A4, n4, k4, w3.heap.size, wc2.heap.size) _ ⟨HA.out, HBV.out, KG5.out, KG6.out, HNE.out, KG5b.out, KG6b.out, HB0.out, KX2.out, KM.out⟩)
        · skip
          refine value_ (w1 := ?_) (v := ?_) (by rfl) rfl ?_ ?_
          rotate_left 2
          · go_simp
            constructor
            · rfl
            · rfl
          have hb1 : Below (w3.alloc (.cells #[.int .u64 0, .int .i64 0, .int .i64 0, .bool false, .slice none 0 0, .int .i64 0] 28)).drew.heap.size (w3.alloc (.cells #[.int .u64 0, .int .i64 0, .int .i64 0, .bool false, .slice none 0 0, .int .i64 0] 28)).drew ((w3.alloc (.cells #[.int .u64 0, .int .i64 0, .int .i64 0, .bool false, .slice none 0 0, .int .i64 0] 28)).alloc (.cells #[.int .u64 0, .int .i64 0, .int .i64 0, .bool false, .slice none 0 0, .int .i64 0] 28)).drew := below_alloc (Below.refl (w3.alloc (.cells #[.int .u64 0, .int .i64 0, .int .i64 0, .bool false, .slice none 0 0, .int .i64 0] 28)).drew.heap.size (w3.alloc (.cells #[.int .u64 0, .int .i64 0, .int .i64 0, .bool false, .slice none 0 0, .int .i64 0] 28)).drew) (.cells #[.int .u64 0, .int .i64 0, .int .i64 0, .bool false, .slice none 0 0, .int .i64 0] 28)
          have HGG := Aside0.mk (show w3.heap.size < w3.heap.size + 1 from by first | omega | exact hp_lt KG5.out | fail)
          have HNE : Aside0 (w3.heap.size ≠ w3.heap.size + 1) := ⟨by have := HGG.out; omega⟩
          have KG6 := Aside0.mk (show hp ((w3.alloc (.cells #[.int .u64 0, .int .i64 0, .int .i64 0, .bool false, .slice none 0 0, .int .i64 0] 28)).alloc (.cells #[.int .u64 0, .int .i64 0, .int .i64 0, .bool false, .slice none 0 0, .int .i64 0] 28)).drew (w3.heap.size + 1) = some (.cells #[.int .u64 0, .int .i64 0, .int .i64 0, .bool false, .slice none 0 0, .int .i64 0] 28 (0, 0)) from (by simp (disch := first | omega | (simp; omega) | (simp; done) | fail) [hp_new, hp_old, hp_here, hp_other, setObj_cells, hp_drew, hp_drewN]))
          have KG6b := Aside0.mk (show w2.heap.size < w3.heap.size + 1 from by first | omega | exact hp_lt KM.out | (have := KG5b.out; omega) | fail)
          replace HB0 := Aside0.mk (below_step HB0.out hb1)
          replace HRM := Aside0.mk (HRM.out.below hb1)
          replace HT2 := Aside0.mk (HT2.out.below hb1 HT2.out.2)
          replace KX2 := Aside0.mk (hp_below KX2.out hb1)
          replace KM := Aside0.mk (hp_below KM.out hb1)
          replace KG5 := Aside0.mk (hp_below KG5.out hb1)
          clear hb1
          refine hK.out _ _ ⟨(blk6 KM.out).1, (blk6 KM.out).2.1, (blk6 KM.out).2.2.1, (blk6 KM.out).2.2.2.1, (blk6 KM.out).2.2.2.2.1, (blk6 KM.out).2.2.2.2.2.1⟩ (fun hHeld => ?_)
          clear hK K
          refine norm_ (a' := ?_) ?_ ?_
          rotate_left
          · show Act.put _ (some 6) _ = _
            simp only [Act.put, List.setIfInBounds_toArray, List.set_cons_zero, List.set_cons_succ, i64_w, i32_w]
            rfl
          refine one_ (i := 2) (N := some 20) #[true, true, true, true, true, false, true, true, false, false] rfl rfl (by kernel_rfl) (by decide) (fun K hK => ?_)
          refine goes_ Tryd.func26 (by kernel_rfl) rfl #[.bool false, .agg #[.int .u64 P, .int .i64 m, .int .i64 f, .bool neg, .slice A1 n1 k1, .int .i64 y], .int .i64 E] (by rfl) rfl rfl (by simp only [List.map_toArray, List.map_cons, List.map_nil]; rfl) ?_
          with_reducible refine (HJ0.out _ HRM.out HT2.out).mono ?_
          rintro e wc2 ⟨A3, n3, k3, rfl, hv, hb1⟩
          refine ⟨_, rfl, ?_⟩
          replace HB0 := Aside0.mk (below_step HB0.out hb1)
          replace HRM := Aside0.mk (HRM.out.below hb1)
          replace HT2 := Aside0.mk (HT2.out.below hb1 HT2.out.2)
          replace KX2 := Aside0.mk (hp_below KX2.out hb1)
          replace KM := Aside0.mk (hp_below KM.out hb1)
          replace KG5 := Aside0.mk (hp_below KG5.out hb1)
          replace KG6 := Aside0.mk (hp_below KG6.out hb1)
          have HA := Aside0.mk hv.wd
          clear hv hb1
          refine hK.out _ _ ⟨(blk6 KM.out).1, (blk6 KM.out).2.1, (blk6 KM.out).2.2.1, (blk6 KM.out).2.2.2.1, (blk6 KM.out).2.2.2.2.1, (blk6 KM.out).2.2.2.2.2.1⟩ (fun hHeld => ?_)
          clear hK K
          refine norm_ (a' := ?_) ?_ ?_
          rotate_left
          · show Act.put _ (some 20) _ = _
            simp only [Act.put, List.setIfInBounds_toArray, List.set_cons_zero, List.set_cons_succ, i64_w, i32_w]
            rfl
          refine one_ (i := 5) (N := some 23) #[true, true, true, true, true, true, true, true, false, false] rfl rfl (by kernel_rfl) (by decide) (fun K hK => ?_)
          refine goes_ Tryd.func26 (by kernel_rfl) rfl #[.bool true, .agg #[.int .u64 P, .int .i64 m, .int .i64 f, .bool neg, .slice A1 n1 k1, .int .i64 y], .int .i64 E] (by rfl) rfl rfl (by simp only [List.map_toArray, List.map_cons, List.map_nil]; rfl) ?_
          with_reducible refine (HJ1.out _ HRM.out HT2.out).mono ?_
          rintro e wc5 ⟨A4, n4, k4, rfl, hv, hb1⟩
          refine ⟨_, rfl, ?_⟩
          replace HB0 := Aside0.mk (below_step HB0.out hb1)
          replace HRM := Aside0.mk (HRM.out.below hb1)
          replace HT2 := Aside0.mk (HT2.out.below hb1 HT2.out.2)
          replace KX2 := Aside0.mk (hp_below KX2.out hb1)
          replace KM := Aside0.mk (hp_below KM.out hb1)
          replace HA := Aside0.mk (HA.out.below hb1)
          replace KG5 := Aside0.mk (hp_below KG5.out hb1)
          replace KG6 := Aside0.mk (hp_below KG6.out hb1)
          have HBV := Aside0.mk hv.wd
          clear hv hb1
          refine hK.out _ _ ⟨(blk6 KM.out).1, (blk6 KM.out).2.1, (blk6 KM.out).2.2.1, (blk6 KM.out).2.2.2.1, (blk6 KM.out).2.2.2.2.1, (blk6 KM.out).2.2.2.2.2.1⟩ (fun hHeld => ?_)
          clear hK K
          refine norm_ (a' := ?_) ?_ ?_
          rotate_left
          · show Act.put _ (some 23) _ = _
            simp only [Act.put, List.setIfInBounds_toArray, List.set_cons_zero, List.set_cons_succ, i64_w, i32_w]
            rfl
          exact norm_ (by simp only [putAll, Act.put, List.setIfInBounds_toArray, List.set_cons_zero, List.set_cons_succ]) (hCont (A3, n3, k3, A4, n4, k4, w3.heap.size, w3.heap.size + 1) _ ⟨HA.out, HBV.out, KG5.out, KG6.out, HNE.out, KG5b.out, KG6b.out, HB0.out, KX2.out, KM.out⟩)
      · skip
        refine value_ (w1 := ?_) (v := ?_) (by rfl) rfl ?_ ?_
        rotate_left 2
        · go_simp
          constructor
          · rfl
          · rfl
        have hb1 : Below w3.drew.heap.size w3.drew (w3.alloc (.cells #[.int .u64 0, .int .i64 0, .int .i64 0, .bool false, .slice none 0 0, .int .i64 0] 28)).drew := below_alloc (Below.refl w3.drew.heap.size w3.drew) (.cells #[.int .u64 0, .int .i64 0, .int .i64 0, .bool false, .slice none 0 0, .int .i64 0] 28)
        have KG6 := Aside0.mk (show hp (w3.alloc (.cells #[.int .u64 0, .int .i64 0, .int .i64 0, .bool false, .slice none 0 0, .int .i64 0] 28)).drew (w3.heap.size) = some (.cells #[.int .u64 0, .int .i64 0, .int .i64 0, .bool false, .slice none 0 0, .int .i64 0] 28 (0, 0)) from (by simp (disch := first | omega | (simp; omega) | (simp; done) | fail) [hp_new, hp_old, hp_here, hp_other, setObj_cells, hp_drew, hp_drewN]))
        have KG6b := Aside0.mk (show w2.heap.size < w3.heap.size from by first | omega | exact hp_lt KM.out | (have := KG5b.out; omega) | fail)
        replace HB0 := Aside0.mk (below_step HB0.out hb1)
        replace HRM := Aside0.mk (HRM.out.below hb1)
        replace HT2 := Aside0.mk (HT2.out.below hb1 HT2.out.2)
        replace KX2 := Aside0.mk (hp_below KX2.out hb1)
        replace KM := Aside0.mk (hp_below KM.out hb1)
        clear hb1
        refine hK.out _ _ ⟨(blk6 KM.out).1, (blk6 KM.out).2.1, (blk6 KM.out).2.2.1, (blk6 KM.out).2.2.2.1, (blk6 KM.out).2.2.2.2.1, (blk6 KM.out).2.2.2.2.2.1⟩ (fun hHeld => ?_)
        clear hK K
        refine norm_ (a' := ?_) ?_ ?_
        rotate_left
        · show Act.put _ (some 6) _ = _
          simp only [Act.put, List.setIfInBounds_toArray, List.set_cons_zero, List.set_cons_succ, i64_w, i32_w]
          rfl
        refine two_ (i := 2) (j := 6) (Ni := some 20) (Nj := some 5) #[true, true, true, true, true, false, false, true, false, false] #[true, true, false, true, true, false, true, true, false, false] rfl rfl rfl rfl (by kernel_rfl) (by decide) (by decide) (fun K hK => ?_) (fun K hK => ?_)
        · skip
          refine goes_ Tryd.func26 (by kernel_rfl) rfl #[.bool false, .agg #[.int .u64 P, .int .i64 m, .int .i64 f, .bool neg, .slice A1 n1 k1, .int .i64 y], .int .i64 E] (by rfl) rfl rfl (by simp only [List.map_toArray, List.map_cons, List.map_nil]; rfl) ?_
          with_reducible refine (HJ0.out _ HRM.out HT2.out).mono ?_
          rintro e wc2 ⟨A3, n3, k3, rfl, hv, hb1⟩
          refine ⟨_, rfl, ?_⟩
          replace HB0 := Aside0.mk (below_step HB0.out hb1)
          replace HRM := Aside0.mk (HRM.out.below hb1)
          replace HT2 := Aside0.mk (HT2.out.below hb1 HT2.out.2)
          replace KX2 := Aside0.mk (hp_below KX2.out hb1)
          replace KM := Aside0.mk (hp_below KM.out hb1)
          replace KG6 := Aside0.mk (hp_below KG6.out hb1)
          have HA := Aside0.mk hv.wd
          clear hv hb1
          refine hK.out _ _ ⟨(blk6 KM.out).1, (blk6 KM.out).2.1, (blk6 KM.out).2.2.1, (blk6 KM.out).2.2.2.1, (blk6 KM.out).2.2.2.2.1, (blk6 KM.out).2.2.2.2.2.1⟩ (fun hHeld => ?_)
          clear hK K
          refine norm_ (a' := ?_) ?_ ?_
          rotate_left
          · show Act.put _ (some 20) _ = _
            simp only [Act.put, List.setIfInBounds_toArray, List.set_cons_zero, List.set_cons_succ, i64_w, i32_w]
            rfl
          refine two_ (i := 5) (j := 6) (Ni := some 23) (Nj := some 5) #[true, true, true, true, true, true, false, true, false, false] #[true, true, true, true, true, false, true, true, false, false] rfl rfl rfl rfl (by kernel_rfl) (by decide) (by decide) (fun K hK => ?_) (fun K hK => ?_)
          · skip
            refine goes_ Tryd.func26 (by kernel_rfl) rfl #[.bool true, .agg #[.int .u64 P, .int .i64 m, .int .i64 f, .bool neg, .slice A1 n1 k1, .int .i64 y], .int .i64 E] (by rfl) rfl rfl (by simp only [List.map_toArray, List.map_cons, List.map_nil]; rfl) ?_
            with_reducible refine (HJ1.out _ HRM.out HT2.out).mono ?_
            rintro e wc5 ⟨A4, n4, k4, rfl, hv, hb1⟩
            refine ⟨_, rfl, ?_⟩
            replace HB0 := Aside0.mk (below_step HB0.out hb1)
            replace HRM := Aside0.mk (HRM.out.below hb1)
            replace HT2 := Aside0.mk (HT2.out.below hb1 HT2.out.2)
            replace KX2 := Aside0.mk (hp_below KX2.out hb1)
            replace KM := Aside0.mk (hp_below KM.out hb1)
            replace HA := Aside0.mk (HA.out.below hb1)
            replace KG6 := Aside0.mk (hp_below KG6.out hb1)
            have HBV := Aside0.mk hv.wd
            clear hv hb1
            refine hK.out _ _ ⟨(blk6 KM.out).1, (blk6 KM.out).2.1, (blk6 KM.out).2.2.1, (blk6 KM.out).2.2.2.1, (blk6 KM.out).2.2.2.2.1, (blk6 KM.out).2.2.2.2.2.1⟩ (fun hHeld => ?_)
            clear hK K
            refine norm_ (a' := ?_) ?_ ?_
            rotate_left
            · show Act.put _ (some 23) _ = _
              simp only [Act.put, List.setIfInBounds_toArray, List.set_cons_zero, List.set_cons_succ, i64_w, i32_w]
              rfl
            refine one_ (i := 6) (N := some 5) #[true, true, true, true, true, true, true, true, false, false] rfl rfl (by kernel_rfl) (by decide) (fun K hK => ?_)
            refine value_ (w1 := ?_) (v := ?_) (by rfl) rfl ?_ ?_
            rotate_left 2
            · go_simp
              constructor
              · rfl
              · rfl
            have hb1 : Below wc5.heap.size wc5 (wc5.alloc (.cells #[.int .u64 0, .int .i64 0, .int .i64 0, .bool false, .slice none 0 0, .int .i64 0] 28)) := below_alloc (Below.refl wc5.heap.size wc5) (.cells #[.int .u64 0, .int .i64 0, .int .i64 0, .bool false, .slice none 0 0, .int .i64 0] 28)
            have HGG := Aside0.mk (show w3.heap.size < wc5.heap.size from by first | omega | exact hp_lt KG6.out | fail)
            have HNE : Aside0 (wc5.heap.size ≠ w3.heap.size) := ⟨by have := HGG.out; omega⟩
            have KG5 := Aside0.mk (show hp (wc5.alloc (.cells #[.int .u64 0, .int .i64 0, .int .i64 0, .bool false, .slice none 0 0, .int .i64 0] 28)) (wc5.heap.size) = some (.cells #[.int .u64 0, .int .i64 0, .int .i64 0, .bool false, .slice none 0 0, .int .i64 0] 28 (0, 0)) from (by simp (disch := first | omega | (simp; omega) | (simp; done) | fail) [hp_new, hp_old, hp_here, hp_other, setObj_cells, hp_drew, hp_drewN]))
            have KG5b := Aside0.mk (show w2.heap.size < wc5.heap.size from by first | omega | exact hp_lt KM.out | (have := KG6b.out; omega) | fail)
            replace HB0 := Aside0.mk (below_step HB0.out hb1)
            replace HRM := Aside0.mk (HRM.out.below hb1)
            replace HT2 := Aside0.mk (HT2.out.below hb1 HT2.out.2)
            replace KX2 := Aside0.mk (hp_below KX2.out hb1)
            replace KM := Aside0.mk (hp_below KM.out hb1)
            replace HA := Aside0.mk (HA.out.below hb1)
            replace HBV := Aside0.mk (HBV.out.below hb1)
            replace KG6 := Aside0.mk (hp_below KG6.out hb1)
            clear hb1
            refine hK.out _ _ ⟨(blk6 KM.out).1, (blk6 KM.out).2.1, (blk6 KM.out).2.2.1, (blk6 KM.out).2.2.2.1, (blk6 KM.out).2.2.2.2.1, (blk6 KM.out).2.2.2.2.2.1⟩ (fun hHeld => ?_)
            clear hK K
            refine norm_ (a' := ?_) ?_ ?_
            rotate_left
            · show Act.put _ (some 5) _ = _
              simp only [Act.put, List.setIfInBounds_toArray, List.set_cons_zero, List.set_cons_succ, i64_w, i32_w]
              rfl
            exact norm_ (by simp only [putAll, Act.put, List.setIfInBounds_toArray, List.set_cons_zero, List.set_cons_succ]) (hCont (A3, n3, k3, A4, n4, k4, wc5.heap.size, w3.heap.size) _ ⟨HA.out, HBV.out, KG5.out, KG6.out, HNE.out, KG5b.out, KG6b.out, HB0.out, KX2.out, KM.out⟩)
          · skip
            refine value_ (w1 := ?_) (v := ?_) (by rfl) rfl ?_ ?_
            rotate_left 2
            · go_simp
              constructor
              · rfl
              · rfl
            have hb1 : Below wc2.heap.size wc2 (wc2.alloc (.cells #[.int .u64 0, .int .i64 0, .int .i64 0, .bool false, .slice none 0 0, .int .i64 0] 28)) := below_alloc (Below.refl wc2.heap.size wc2) (.cells #[.int .u64 0, .int .i64 0, .int .i64 0, .bool false, .slice none 0 0, .int .i64 0] 28)
            have HGG := Aside0.mk (show w3.heap.size < wc2.heap.size from by first | omega | exact hp_lt KG6.out | fail)
            have HNE : Aside0 (wc2.heap.size ≠ w3.heap.size) := ⟨by have := HGG.out; omega⟩
            have KG5 := Aside0.mk (show hp (wc2.alloc (.cells #[.int .u64 0, .int .i64 0, .int .i64 0, .bool false, .slice none 0 0, .int .i64 0] 28)) (wc2.heap.size) = some (.cells #[.int .u64 0, .int .i64 0, .int .i64 0, .bool false, .slice none 0 0, .int .i64 0] 28 (0, 0)) from (by simp (disch := first | omega | (simp; omega) | (simp; done) | fail) [hp_new, hp_old, hp_here, hp_other, setObj_cells, hp_drew, hp_drewN]))
            have KG5b := Aside0.mk (show w2.heap.size < wc2.heap.size from by first | omega | exact hp_lt KM.out | (have := KG6b.out; omega) | fail)
            replace HB0 := Aside0.mk (below_step HB0.out hb1)
            replace HRM := Aside0.mk (HRM.out.below hb1)
            replace HT2 := Aside0.mk (HT2.out.below hb1 HT2.out.2)
            replace KX2 := Aside0.mk (hp_below KX2.out hb1)
            replace KM := Aside0.mk (hp_below KM.out hb1)
            replace HA := Aside0.mk (HA.out.below hb1)
            replace KG6 := Aside0.mk (hp_below KG6.out hb1)
            clear hb1
            refine hK.out _ _ ⟨(blk6 KM.out).1, (blk6 KM.out).2.1, (blk6 KM.out).2.2.1, (blk6 KM.out).2.2.2.1, (blk6 KM.out).2.2.2.2.1, (blk6 KM.out).2.2.2.2.2.1⟩ (fun hHeld => ?_)
            clear hK K
            refine norm_ (a' := ?_) ?_ ?_
            rotate_left
            · show Act.put _ (some 5) _ = _
              simp only [Act.put, List.setIfInBounds_toArray, List.set_cons_zero, List.set_cons_succ, i64_w, i32_w]
              rfl
            refine one_ (i := 5) (N := some 23) #[true, true, true, true, true, true, true, true, false, false] rfl rfl (by kernel_rfl) (by decide) (fun K hK => ?_)
            refine goes_ Tryd.func26 (by kernel_rfl) rfl #[.bool true, .agg #[.int .u64 P, .int .i64 m, .int .i64 f, .bool neg, .slice A1 n1 k1, .int .i64 y], .int .i64 E] (by rfl) rfl rfl (by simp only [List.map_toArray, List.map_cons, List.map_nil]; rfl) ?_
            with_reducible refine (HJ1.out _ HRM.out HT2.out).mono ?_
            rintro e wc5 ⟨A4, n4, k4, rfl, hv, hb1⟩
            refine ⟨_, rfl, ?_⟩
            replace HB0 := Aside0.mk (below_step HB0.out hb1)
            replace HRM := Aside0.mk (HRM.out.below hb1)
            replace HT2 := Aside0.mk (HT2.out.below hb1 HT2.out.2)
            replace KX2 := Aside0.mk (hp_below KX2.out hb1)
            replace KM := Aside0.mk (hp_below KM.out hb1)
            replace HA := Aside0.mk (HA.out.below hb1)
            replace KG5 := Aside0.mk (hp_below KG5.out hb1)
            replace KG6 := Aside0.mk (hp_below KG6.out hb1)
            have HBV := Aside0.mk hv.wd
            clear hv hb1
            refine hK.out _ _ ⟨(blk6 KM.out).1, (blk6 KM.out).2.1, (blk6 KM.out).2.2.1, (blk6 KM.out).2.2.2.1, (blk6 KM.out).2.2.2.2.1, (blk6 KM.out).2.2.2.2.2.1⟩ (fun hHeld => ?_)
            clear hK K
            refine norm_ (a' := ?_) ?_ ?_
            rotate_left
            · show Act.put _ (some 23) _ = _
              simp only [Act.put, List.setIfInBounds_toArray, List.set_cons_zero, List.set_cons_succ, i64_w, i32_w]
              rfl
            exact norm_ (by simp only [putAll, Act.put, List.setIfInBounds_toArray, List.set_cons_zero, List.set_cons_succ]) (hCont (A3, n3, k3, A4, n4, k4, wc2.heap.size, w3.heap.size) _ ⟨HA.out, HBV.out, KG5.out, KG6.out, HNE.out, KG5b.out, KG6b.out, HB0.out, KX2.out, KM.out⟩)
        · skip
          refine value_ (w1 := ?_) (v := ?_) (by rfl) rfl ?_ ?_
          rotate_left 2
          · go_simp
            constructor
            · rfl
            · rfl
          have hb1 : Below (w3.alloc (.cells #[.int .u64 0, .int .i64 0, .int .i64 0, .bool false, .slice none 0 0, .int .i64 0] 28)).drew.heap.size (w3.alloc (.cells #[.int .u64 0, .int .i64 0, .int .i64 0, .bool false, .slice none 0 0, .int .i64 0] 28)).drew ((w3.alloc (.cells #[.int .u64 0, .int .i64 0, .int .i64 0, .bool false, .slice none 0 0, .int .i64 0] 28)).alloc (.cells #[.int .u64 0, .int .i64 0, .int .i64 0, .bool false, .slice none 0 0, .int .i64 0] 28)).drew := below_alloc (Below.refl (w3.alloc (.cells #[.int .u64 0, .int .i64 0, .int .i64 0, .bool false, .slice none 0 0, .int .i64 0] 28)).drew.heap.size (w3.alloc (.cells #[.int .u64 0, .int .i64 0, .int .i64 0, .bool false, .slice none 0 0, .int .i64 0] 28)).drew) (.cells #[.int .u64 0, .int .i64 0, .int .i64 0, .bool false, .slice none 0 0, .int .i64 0] 28)
          have HGG := Aside0.mk (show w3.heap.size < w3.heap.size + 1 from by first | omega | exact hp_lt KG6.out | fail)
          have HNE : Aside0 (w3.heap.size + 1 ≠ w3.heap.size) := ⟨by have := HGG.out; omega⟩
          have KG5 := Aside0.mk (show hp ((w3.alloc (.cells #[.int .u64 0, .int .i64 0, .int .i64 0, .bool false, .slice none 0 0, .int .i64 0] 28)).alloc (.cells #[.int .u64 0, .int .i64 0, .int .i64 0, .bool false, .slice none 0 0, .int .i64 0] 28)).drew (w3.heap.size + 1) = some (.cells #[.int .u64 0, .int .i64 0, .int .i64 0, .bool false, .slice none 0 0, .int .i64 0] 28 (0, 0)) from (by simp (disch := first | omega | (simp; omega) | (simp; done) | fail) [hp_new, hp_old, hp_here, hp_other, setObj_cells, hp_drew, hp_drewN]))
          have KG5b := Aside0.mk (show w2.heap.size < w3.heap.size + 1 from by first | omega | exact hp_lt KM.out | (have := KG6b.out; omega) | fail)
          replace HB0 := Aside0.mk (below_step HB0.out hb1)
          replace HRM := Aside0.mk (HRM.out.below hb1)
          replace HT2 := Aside0.mk (HT2.out.below hb1 HT2.out.2)
          replace KX2 := Aside0.mk (hp_below KX2.out hb1)
          replace KM := Aside0.mk (hp_below KM.out hb1)
          replace KG6 := Aside0.mk (hp_below KG6.out hb1)
          clear hb1
          refine hK.out _ _ ⟨(blk6 KM.out).1, (blk6 KM.out).2.1, (blk6 KM.out).2.2.1, (blk6 KM.out).2.2.2.1, (blk6 KM.out).2.2.2.2.1, (blk6 KM.out).2.2.2.2.2.1⟩ (fun hHeld => ?_)
          clear hK K
          refine norm_ (a' := ?_) ?_ ?_
          rotate_left
          · show Act.put _ (some 5) _ = _
            simp only [Act.put, List.setIfInBounds_toArray, List.set_cons_zero, List.set_cons_succ, i64_w, i32_w]
            rfl
          refine one_ (i := 2) (N := some 20) #[true, true, true, true, true, false, true, true, false, false] rfl rfl (by kernel_rfl) (by decide) (fun K hK => ?_)
          refine goes_ Tryd.func26 (by kernel_rfl) rfl #[.bool false, .agg #[.int .u64 P, .int .i64 m, .int .i64 f, .bool neg, .slice A1 n1 k1, .int .i64 y], .int .i64 E] (by rfl) rfl rfl (by simp only [List.map_toArray, List.map_cons, List.map_nil]; rfl) ?_
          with_reducible refine (HJ0.out _ HRM.out HT2.out).mono ?_
          rintro e wc2 ⟨A3, n3, k3, rfl, hv, hb1⟩
          refine ⟨_, rfl, ?_⟩
          replace HB0 := Aside0.mk (below_step HB0.out hb1)
          replace HRM := Aside0.mk (HRM.out.below hb1)
          replace HT2 := Aside0.mk (HT2.out.below hb1 HT2.out.2)
          replace KX2 := Aside0.mk (hp_below KX2.out hb1)
          replace KM := Aside0.mk (hp_below KM.out hb1)
          replace KG5 := Aside0.mk (hp_below KG5.out hb1)
          replace KG6 := Aside0.mk (hp_below KG6.out hb1)
          have HA := Aside0.mk hv.wd
          clear hv hb1
          refine hK.out _ _ ⟨(blk6 KM.out).1, (blk6 KM.out).2.1, (blk6 KM.out).2.2.1, (blk6 KM.out).2.2.2.1, (blk6 KM.out).2.2.2.2.1, (blk6 KM.out).2.2.2.2.2.1⟩ (fun hHeld => ?_)
          clear hK K
          refine norm_ (a' := ?_) ?_ ?_
          rotate_left
          · show Act.put _ (some 20) _ = _
            simp only [Act.put, List.setIfInBounds_toArray, List.set_cons_zero, List.set_cons_succ, i64_w, i32_w]
            rfl
          refine one_ (i := 5) (N := some 23) #[true, true, true, true, true, true, true, true, false, false] rfl rfl (by kernel_rfl) (by decide) (fun K hK => ?_)
          refine goes_ Tryd.func26 (by kernel_rfl) rfl #[.bool true, .agg #[.int .u64 P, .int .i64 m, .int .i64 f, .bool neg, .slice A1 n1 k1, .int .i64 y], .int .i64 E] (by rfl) rfl rfl (by simp only [List.map_toArray, List.map_cons, List.map_nil]; rfl) ?_
          with_reducible refine (HJ1.out _ HRM.out HT2.out).mono ?_
          rintro e wc5 ⟨A4, n4, k4, rfl, hv, hb1⟩
          refine ⟨_, rfl, ?_⟩
          replace HB0 := Aside0.mk (below_step HB0.out hb1)
          replace HRM := Aside0.mk (HRM.out.below hb1)
          replace HT2 := Aside0.mk (HT2.out.below hb1 HT2.out.2)
          replace KX2 := Aside0.mk (hp_below KX2.out hb1)
          replace KM := Aside0.mk (hp_below KM.out hb1)
          replace HA := Aside0.mk (HA.out.below hb1)
          replace KG5 := Aside0.mk (hp_below KG5.out hb1)
          replace KG6 := Aside0.mk (hp_below KG6.out hb1)
          have HBV := Aside0.mk hv.wd
          clear hv hb1
          refine hK.out _ _ ⟨(blk6 KM.out).1, (blk6 KM.out).2.1, (blk6 KM.out).2.2.1, (blk6 KM.out).2.2.2.1, (blk6 KM.out).2.2.2.2.1, (blk6 KM.out).2.2.2.2.2.1⟩ (fun hHeld => ?_)
          clear hK K
          refine norm_ (a' := ?_) ?_ ?_
          rotate_left
          · show Act.put _ (some 23) _ = _
            simp only [Act.put, List.setIfInBounds_toArray, List.set_cons_zero, List.set_cons_succ, i64_w, i32_w]
            rfl
          exact norm_ (by simp only [putAll, Act.put, List.setIfInBounds_toArray, List.set_cons_zero, List.set_cons_succ]) (hCont (A3, n3, k3, A4, n4, k4, w3.heap.size + 1, w3.heap.size) _ ⟨HA.out, HBV.out, KG5.out, KG6.out, HNE.out, KG5b.out, KG6b.out, HB0.out, KX2.out, KM.out⟩)
    rintro ⟨A3, n3, k3, A4, n4, k4, g5, g6⟩ w8 ⟨ha, hb, hg5, hg6, hgg, hg5b, hg6b, hb0, hx2, hm2⟩
    have hHeld := blk6 hm2
    have hHeld : _ ∧ _ ∧ _ ∧ _ ∧ _ ∧ _ := ⟨hHeld.1, hHeld.2.1, hHeld.2.2.1, hHeld.2.2.2.1, hHeld.2.2.2.2.1, hHeld.2.2.2.2.2.1⟩
    clear HRM HT2 KX2 KM HB0 HJ0 HJ1
    have HA : Aside0 (Wd w8 (.slice A3 n3 k3) V) := ⟨ha⟩
    have HBV : Aside0 (Wd w8 (.slice A4 n4 k4) V) := ⟨hb⟩
    have KG5 : Aside0 (hp w8 g5 = some (.cells #[.int .u64 0, .int .i64 0, .int .i64 0, .bool false, .slice none 0 0, .int .i64 0] 28 (0, 0))) := ⟨hg5⟩
    have KG6 : Aside0 (hp w8 g6 = some (.cells #[.int .u64 0, .int .i64 0, .int .i64 0, .bool false, .slice none 0 0, .int .i64 0] 28 (0, 0))) := ⟨hg6⟩
    have HB8 : Aside0 (Below w.heap.size w w8) := ⟨hb0⟩
    have KX8 := Aside0.mk hx2
    have hgg' : g5 ≠ g6 := hgg
    have hg5b : w2.heap.size < g5 := hg5b
    have hg6b : w2.heap.size < g6 := hg6b
    obtain ⟨x0, x1, x2, x3, x4, x5, r0, r1, r2, r3, r4, r5⟩ := blk6 (show hp w8 g5 = _ from hg5)
    obtain ⟨y0, y1, y2, y3, y4, y5, u0, u1, u2, u3, u4, u5⟩ := blk6 (show hp w8 g6 = _ from hg6)
    have l5 := hp_lt KG5.out
    have l6 := hp_lt KG6.out
    clear ha hb hg5 hg6 hgg hb0 hx2 hm2 c0 c1 c2 c3 c4 c5 f0 f1 f2 f3 f4 f5
    refine norm_ (a' := ?_) ?_ ?_
    rotate_left
    · simp only [putAll, Act.put, List.setIfInBounds_toArray, List.set_cons_zero, List.set_cons_succ]
      rfl
    refine last_ (i := 8) (N := none) #[true, true, true, true, true, true, true, true, true, false] rfl rfl (by kernel_rfl) (by decide) (fun K hK => ?_)
    refine skip_ (w1 := ?_) (by rfl) rfl ?_ ?_
    rotate_left
    · go_simp
      rfl
    refine hK.out _ _ ?_
    clear hK K
    refine last_ (i := 9) (N := none) #[true, true, true, true, true, true, true, true, true, true] rfl rfl (by kernel_rfl) (by decide) (fun K hK => ?_)
    refine skip_ (w1 := ?_) (by rfl) rfl ?_ ?_
    rotate_left
    · go_simp
      rfl
    refine hK.out _ _ ?_
    clear hK K
    refine done_ (by kernel_rfl) ?_
    obtain ⟨w9, hw9⟩ : ∃ w9, w9 = ((((((((((((w8.setCell ⟨g5, 0, none⟩ (.int .u64 P)).setCell ⟨g5, 1, none⟩ (.int .i64 m)).setCell ⟨g5, 2, none⟩ (.int .i64 f)).setCell ⟨g5, 3, none⟩ (.bool neg)).setCell ⟨g5, 4, none⟩ (.slice A3 n3 k3)).setCell ⟨g5, 5, none⟩ (.int .i64 q)).setCell ⟨g6, 0, none⟩ (.int .u64 P)).setCell ⟨g6, 1, none⟩ (.int .i64 m)).setCell ⟨g6, 2, none⟩ (.int .i64 f)).setCell ⟨g6, 3, none⟩ (.bool neg)).setCell ⟨g6, 4, none⟩ (.slice A4 n4 k4)).setCell ⟨g6, 5, none⟩ (.int .i64 q)) := ⟨_, rfl⟩
    have hk9 : Sp.Kept (On2 g5 g6) w8 w9 := by rw [hw9]; exact ((((((((((((Sp.Kept.refl _ _).setCell (.inl (.inl rfl)) _).setCell (.inl (.inl rfl)) _).setCell (.inl (.inl rfl)) _).setCell (.inl (.inl rfl)) _).setCell (.inl (.inl rfl)) _).setCell (.inl (.inl rfl)) _).setCell (.inl (.inr rfl)) _).setCell (.inl (.inr rfl)) _).setCell (.inl (.inr rfl)) _).setCell (.inl (.inr rfl)) _).setCell (.inl (.inr rfl)) _).setCell (.inl (.inr rfl)) _
    have hgg2 : g6 ≠ g5 := fun e => hgg' e.symm
    have hka : hp w9 g5 = some (.cells #[.int .u64 P, .int .i64 m, .int .i64 f, .bool neg, .slice A3 n3 k3, .int .i64 q] 28 (0, 0)) := by
      rw [hw9, hp_other _ _ _ _ hgg2, hp_other _ _ _ _ hgg2, hp_other _ _ _ _ hgg2, hp_other _ _ _ _ hgg2, hp_other _ _ _ _ hgg2, hp_other _ _ _ _ hgg2, hp_here _ _ _ _ _ rfl, hp_here _ _ _ _ _ rfl, hp_here _ _ _ _ _ rfl, hp_here _ _ _ _ _ rfl, hp_here _ _ _ _ _ rfl, hp_here _ _ _ _ _ rfl, KG5.out]
      rfl
    have hkb : hp w9 g6 = some (.cells #[.int .u64 P, .int .i64 m, .int .i64 f, .bool neg, .slice A4 n4 k4, .int .i64 q] 28 (0, 0)) := by
      rw [hw9, hp_here _ _ _ _ _ rfl, hp_here _ _ _ _ _ rfl, hp_here _ _ _ _ _ rfl, hp_here _ _ _ _ _ rfl, hp_here _ _ _ _ _ rfl, hp_here _ _ _ _ _ rfl, hp_other _ _ _ _ hgg', hp_other _ _ _ _ hgg', hp_other _ _ _ _ hgg', hp_other _ _ _ _ hgg', hp_other _ _ _ _ hgg', hp_other _ _ _ _ hgg', KG6.out]
      rfl
    rw [← hw9]
    clear hw9 x0 x1 x2 x3 x4 x5 r0 r1 r2 r3 r4 r5 y0 y1 y2 y3 y4 y5 u0 u1 u2 u3 u4 u5
    have hwl : w.heap.size < w2.heap.size := hs2
    have hkx := hp_kept KX8.out hk9 (fun h => by rcases h with h | h <;> omega)
    have hoff : ∀ {A' : Option Addr} {n' k' : Nat}, Wd w8 (.slice A' n' k') V → ∀ a, A' = some a → 0 < n' → ¬ On2 g5 g6 a.block := by
      intro A' n' k' h a ha hn hO
      subst ha
      rcases hO with h1 | h1
      · exact wd_off h hn KG5.out h1
      · exact wd_off h hn KG6.out h1
    have HA9 := Aside0.mk (wd_kept HA.out hk9 (hoff HA.out))
    have HB9 := Aside0.mk (wd_kept HBV.out hk9 (hoff HBV.out))
    have HBW9 := Aside0.mk (HB8.out.trans (hk9.below (B := w.heap.size) (by rintro i (h | h) <;> omega) HB8.out.size))
    have KA9 := Aside0.mk hka
    have KX9 := Aside0.mk hkx
    obtain ⟨a0, a1, a2, a3, a4, a5, _, _, _, _, _, _⟩ := blk6 hka
    obtain ⟨b0, b1, b2, b3, b4, b5, _, _, _, _, _, _⟩ := blk6 hkb
    have l5' := hp_lt hka
    have l6' := hp_lt hkb
    have HSM := Aside0.mk (same_c P m f q neg A3 A4 n3 k3 n4 k4 V w9 HA9.out HB9.out HVL.out)
    clear hk9 hka hkb hkx hoff HA HBV KG5 KG6 KX8 HB8
    go_wp2_with (fail)
    refine (HSM.out).mono ?_
    rintro e w10 ⟨rfl, hb10⟩
    have KX := Aside0.mk (hp_below KX9.out hb10)
    have KZ := Aside0.mk (hp_below KA9.out hb10)
    have HBW := Aside0.mk (below_step HBW9.out hb10)
    have HA10 := Aside0.mk (HA9.out.below hb10)
    clear hb10 HSM a0 a1 a2 a3 a4 a5 b0 b1 b2 b3 b4 b5 KX9 KA9 HBW9 HA9 HB9
    obtain ⟨c0, c1, c2, c3, c4, c5, f0, f1, f2, f3, f4, f5⟩ := blk6 KX.out
    obtain ⟨d0, d1, d2, d3, d4, d5, _, _, _, _, _, _⟩ := blk6 KZ.out
    have lx9 := hp_lt KX.out
    have lz9 := hp_lt KZ.out
    by_cases hf1 : f = 1
    case neg =>
      have e1 : (f != 1) = true := by simp [hf1]
      go_upto_region 9 with (fail)
      refine start_ (n := 14) (S := fun w' => w'.cell? ⟨w.heap.size, 2, none⟩ = some (.int .i64 f)) (ds := []) #[false, false, false, false, false, false, false, false, false, false, false, false, false, false] (by kernel_rfl) rfl rfl ((by go_simp)) (fun hHeld => ?_)
      refine pure_ (i := 0) (N := some 49) (v := ?_) (a' := ?_) #[true, false, false, false, false, false, false, false, false, false, false, false, false, false] rfl rfl (by kernel_rfl) (fun _ _ _ h => h) (Or.inl ⟨by rfl, ?_⟩) ?_ ?_
      rotate_left
      · intro w'
        go_simp
        with_reducible rfl
      rotate_left
      · simp only [Act.put, List.setIfInBounds_toArray, List.set_cons_zero, List.set_cons_succ, i64_w, i32_w]
        rfl
      refine take_ (i := 1) (N := some 50) (v := ?_) (a' := ?_) #[true, true, false, false, false, false, false, false, false, false, false, false, false, false] rfl rfl (by kernel_rfl) (fun _ _ _ h => h) (Or.inl ⟨by rfl, ?_⟩) hHeld ?_ ?_
      rotate_left
      · intro w' s0
        go_simp
        with_reducible rfl
      rotate_left
      · simp only [Act.put, List.setIfInBounds_toArray, List.set_cons_zero, List.set_cons_succ, i64_w, i32_w]
        rfl
      refine pure_ (i := 2) (N := some 51) (v := ?_) (a' := ?_) #[true, true, true, false, false, false, false, false, false, false, false, false, false, false] rfl rfl (by kernel_rfl) (fun _ _ _ h => h) (Or.inl ⟨by rfl, ?_⟩) ?_ ?_
      rotate_left
      · intro w'
        go_simp
        with_reducible rfl
      rotate_left
      · simp only [Act.put, List.setIfInBounds_toArray, List.set_cons_zero, List.set_cons_succ, i64_w, i32_w]
        rfl
      refine pure_ (i := 3) (N := some 52) (v := ?_) (a' := ?_) #[true, true, true, true, false, false, false, false, false, false, false, false, false, false] rfl rfl (by kernel_rfl) (fun _ _ _ h => h) (Or.inl ⟨by rfl, ?_⟩) ?_ ?_
      rotate_left
      · intro w'
        go_simp
        with_reducible rfl
      rotate_left
      · simp only [Act.put, List.setIfInBounds_toArray, List.set_cons_zero, List.set_cons_succ, i64_w, i32_w]
        rfl
      refine pure_ (i := 4) (N := some 53) (v := undef) (a' := ?_) #[true, true, true, true, true, false, false, false, false, false, false, false, false, false] rfl rfl (by kernel_rfl) (fun _ _ _ h => h) (Or.inr ⟨by rfl, rfl⟩) ?_ ?_
      rotate_left
      · simp only [Act.put, List.setIfInBounds_toArray, List.set_cons_zero, List.set_cons_succ, i64_w, i32_w]
        rfl
      refine pure_ (i := 5) (N := some 54) (v := undef) (a' := ?_) #[true, true, true, true, true, true, false, false, false, false, false, false, false, false] rfl rfl (by kernel_rfl) (fun _ _ _ h => h) (Or.inr ⟨by rfl, rfl⟩) ?_ ?_
      rotate_left
      · simp only [Act.put, List.setIfInBounds_toArray, List.set_cons_zero, List.set_cons_succ, i64_w, i32_w]
        rfl
      refine pure_ (i := 6) (N := some 55) (v := undef) (a' := ?_) #[true, true, true, true, true, true, true, false, false, false, false, false, false, false] rfl rfl (by kernel_rfl) (fun _ _ _ h => h) (Or.inr ⟨by rfl, rfl⟩) ?_ ?_
      rotate_left
      · simp only [Act.put, List.setIfInBounds_toArray, List.set_cons_zero, List.set_cons_succ, i64_w, i32_w]
        rfl
      refine pure_ (i := 7) (N := some 56) (v := undef) (a' := ?_) #[true, true, true, true, true, true, true, true, false, false, false, false, false, false] rfl rfl (by kernel_rfl) (fun _ _ _ h => h) (Or.inr ⟨by rfl, rfl⟩) ?_ ?_
      rotate_left
      · simp only [Act.put, List.setIfInBounds_toArray, List.set_cons_zero, List.set_cons_succ, i64_w, i32_w]
        rfl
      refine pure_ (i := 8) (N := some 57) (v := undef) (a' := ?_) #[true, true, true, true, true, true, true, true, true, false, false, false, false, false] rfl rfl (by kernel_rfl) (fun _ _ _ h => h) (Or.inr ⟨by rfl, rfl⟩) ?_ ?_
      rotate_left
      · simp only [Act.put, List.setIfInBounds_toArray, List.set_cons_zero, List.set_cons_succ, i64_w, i32_w]
        rfl
      refine pure_ (i := 9) (N := some 58) (v := undef) (a' := ?_) #[true, true, true, true, true, true, true, true, true, true, false, false, false, false] rfl rfl (by kernel_rfl) (fun _ _ _ h => h) (Or.inr ⟨by rfl, rfl⟩) ?_ ?_
      rotate_left
      · simp only [Act.put, List.setIfInBounds_toArray, List.set_cons_zero, List.set_cons_succ, i64_w, i32_w]
        rfl
      refine pure_ (i := 10) (N := some 59) (v := undef) (a' := ?_) #[true, true, true, true, true, true, true, true, true, true, true, false, false, false] rfl rfl (by kernel_rfl) (fun _ _ _ h => h) (Or.inr ⟨by rfl, rfl⟩) ?_ ?_
      rotate_left
      · simp only [Act.put, List.setIfInBounds_toArray, List.set_cons_zero, List.set_cons_succ, i64_w, i32_w]
        rfl
      refine pure_ (i := 11) (N := some 60) (v := undef) (a' := ?_) #[true, true, true, true, true, true, true, true, true, true, true, true, false, false] rfl rfl (by kernel_rfl) (fun _ _ _ h => h) (Or.inr ⟨by rfl, rfl⟩) ?_ ?_
      rotate_left
      · simp only [Act.put, List.setIfInBounds_toArray, List.set_cons_zero, List.set_cons_succ, i64_w, i32_w]
        rfl
      refine pure_ (i := 12) (N := some 61) (v := ?_) (a' := ?_) #[true, true, true, true, true, true, true, true, true, true, true, true, true, false] rfl rfl (by kernel_rfl) (fun _ _ _ h => h) (Or.inl ⟨by rfl, ?_⟩) ?_ ?_
      rotate_left
      · intro w'
        go_simp
        with_reducible rfl
      rotate_left
      · simp only [Act.put, List.setIfInBounds_toArray, List.set_cons_zero, List.set_cons_succ, i64_w, i32_w]
        rfl
      refine pure_ (i := 13) (N := some 2) (v := ?_) (a' := ?_) #[true, true, true, true, true, true, true, true, true, true, true, true, true, true] rfl rfl (by kernel_rfl) (fun _ _ _ h => h) (Or.inl ⟨by rfl, ?_⟩) ?_ ?_
      rotate_left
      · intro w'
        go_simp
        with_reducible rfl
      rotate_left
      · simp only [Act.put, List.setIfInBounds_toArray, List.set_cons_zero, List.set_cons_succ, i64_w, i32_w]
        rfl
      refine done_ (by kernel_rfl) ?_
      go_wp2_with (fail)
      go_ret
      exact ⟨rfl, HBW.out.drew⟩
    subst hf1
    obtain ⟨z1, z2, z3, z4, z5, z6⟩ := H1.out rfl
    have hyx : q = x + n := HQ.out.trans (if_pos rfl)
    have hvz : V = z / 2 ^ n := HVV.out.trans (if_pos rfl)
    have hwz := HA10.out
    rw [hvz] at hwz
    have HWZ := Aside0.mk hwz
    have HXW := Aside0.mk (HWS.out.below HBW.out)
    have HT4 := Aside0.mk z4
    have HL4 := Aside0.mk z3
    have HE4 := Aside0.mk z1
    have HYX := Aside0.mk hyx
    clear z1 z3 z4 hyx hvz hwz
    go_upto_region 9 with (fail)
    clear c0 c1 c2 c3 c4 c5 f0 f1 f2 f3 f4 f5 d0 d1 d2 d3 d4 d5
    obtain ⟨c0, c1, c2, c3, c4, c5, f0, f1, f2, f3, f4, f5⟩ := blk6 KX.out
    obtain ⟨d0, d1, d2, d3, d4, d5, g0, g1, g2, g3, g4, g5_⟩ := blk6 KZ.out
    have HBD := Aside0.mk (below_drew1 HBW.out)
    have HOR := Aside0.mk (ofReal_c P m neg A X.length c x X w10.drew (HXW.out.below (below_drew (Below.refl _ _))) (by omega))
    refine start_ (n := 14) (S := fun w' => w'.cell? ⟨w.heap.size, 0, none⟩ = some (.int .u64 P) ∧ w'.cell? ⟨w.heap.size, 1, none⟩ = some (.int .i64 m) ∧ w'.cell? ⟨w.heap.size, 2, none⟩ = some (.int .i64 1) ∧ w'.cell? ⟨w.heap.size, 3, none⟩ = some (.bool neg) ∧ w'.cell? ⟨w.heap.size, 4, none⟩ = some (.slice A X.length c) ∧ w'.cell? ⟨w.heap.size, 5, none⟩ = some (.int .i64 x) ∧ w'.cell? ⟨g5, 0, none⟩ = some (.int .u64 P) ∧ w'.cell? ⟨g5, 1, none⟩ = some (.int .i64 m) ∧ w'.cell? ⟨g5, 2, none⟩ = some (.int .i64 1) ∧ w'.cell? ⟨g5, 3, none⟩ = some (.bool neg) ∧ w'.cell? ⟨g5, 4, none⟩ = some (.slice A3 n3 k3) ∧ w'.cell? ⟨g5, 5, none⟩ = some (.int .i64 q)) (ds := []) #[false, false, false, false, false, false, false, false, false, false, false, false, false, false] (by kernel_rfl) rfl rfl ⟨(by go_simp), (by go_simp), (by go_simp), (by go_simp), (by go_simp), (by go_simp), (by go_simp), (by go_simp), (by go_simp), (by go_simp), (by go_simp), (by go_simp)⟩ (fun hHeld => ?_)
    refine pure_ (i := 0) (N := some 49) (v := ?_) (a' := ?_) #[true, false, false, false, false, false, false, false, false, false, false, false, false, false] rfl rfl (by kernel_rfl) (fun _ _ _ h => h) (Or.inl ⟨by rfl, ?_⟩) ?_ ?_
    rotate_left
    · intro w'
      go_simp
      with_reducible rfl
    rotate_left
    · simp only [Act.put, List.setIfInBounds_toArray, List.set_cons_zero, List.set_cons_succ, i64_w, i32_w]
      rfl
    refine take_ (i := 1) (N := some 50) (v := ?_) (a' := ?_) #[true, true, false, false, false, false, false, false, false, false, false, false, false, false] rfl rfl (by kernel_rfl) (fun _ _ _ h => h) (Or.inl ⟨by rfl, ?_⟩) hHeld ?_ ?_
    rotate_left
    · rintro w' ⟨s0, s1, s2, s3, s4, s5, s6, s7, s8, s9, s10, s11⟩
      go_simp
      with_reducible rfl
    rotate_left
    · simp only [Act.put, List.setIfInBounds_toArray, List.set_cons_zero, List.set_cons_succ, i64_w, i32_w]
      rfl
    refine pure_ (i := 2) (N := some 51) (v := ?_) (a' := ?_) #[true, true, true, false, false, false, false, false, false, false, false, false, false, false] rfl rfl (by kernel_rfl) (fun _ _ _ h => h) (Or.inl ⟨by rfl, ?_⟩) ?_ ?_
    rotate_left
    · intro w'
      go_simp
      with_reducible rfl
    rotate_left
    · simp only [Act.put, List.setIfInBounds_toArray, List.set_cons_zero, List.set_cons_succ, i64_w, i32_w]
      rfl
    refine pure_ (i := 3) (N := some 52) (v := ?_) (a' := ?_) #[true, true, true, true, false, false, false, false, false, false, false, false, false, false] rfl rfl (by kernel_rfl) (fun _ _ _ h => h) (Or.inl ⟨by rfl, ?_⟩) ?_ ?_
    rotate_left
    · intro w'
      go_simp
      with_reducible rfl
    rotate_left
    · simp only [Act.put, List.setIfInBounds_toArray, List.set_cons_zero, List.set_cons_succ, i64_w, i32_w]
      rfl
    refine pure_ (i := 5) (N := some 54) (v := ?_) (a' := ?_) #[true, true, true, true, false, true, false, false, false, false, false, false, false, false] rfl rfl (by kernel_rfl) (fun _ _ _ h => h) (Or.inl ⟨by rfl, ?_⟩) ?_ ?_
    rotate_left
    · intro w'
      go_simp
      with_reducible rfl
    rotate_left
    · simp only [Act.put, List.setIfInBounds_toArray, List.set_cons_zero, List.set_cons_succ, i64_w, i32_w]
      rfl
    refine pure_ (i := 7) (N := some 56) (v := ?_) (a' := ?_) #[true, true, true, true, false, true, false, true, false, false, false, false, false, false] rfl rfl (by kernel_rfl) (fun _ _ _ h => h) (Or.inl ⟨by rfl, ?_⟩) ?_ ?_
    rotate_left
    · intro w'
      go_simp
      with_reducible rfl
    rotate_left
    · simp only [Act.put, List.setIfInBounds_toArray, List.set_cons_zero, List.set_cons_succ, i64_w, i32_w]
      rfl
    refine take_ (i := 4) (N := some 53) (v := ?_) (a' := ?_) #[true, true, true, true, true, true, false, true, false, false, false, false, false, false] rfl rfl (by kernel_rfl) (fun _ _ _ h => h) (Or.inl ⟨by rfl, ?_⟩) hHeld ?_ ?_
    rotate_left
    · rintro w' ⟨s0, s1, s2, s3, s4, s5, s6, s7, s8, s9, s10, s11⟩
      go_simp
      with_reducible rfl
    rotate_left
    · simp only [Act.put, List.setIfInBounds_toArray, List.set_cons_zero, List.set_cons_succ, i64_w, i32_w]
      rfl
    refine take_ (i := 6) (N := some 55) (v := ?_) (a' := ?_) #[true, true, true, true, true, true, true, true, false, false, false, false, false, false] rfl rfl (by kernel_rfl) (fun _ _ _ h => h) (Or.inl ⟨by rfl, ?_⟩) hHeld ?_ ?_
    rotate_left
    · rintro w' ⟨s0, s1, s2, s3, s4, s5, s6, s7, s8, s9, s10, s11⟩
      go_simp
      with_reducible rfl
    rotate_left
    · simp only [Act.put, List.setIfInBounds_toArray, List.set_cons_zero, List.set_cons_succ, i64_w, i32_w]
      rfl
    refine take_ (i := 8) (N := some 57) (v := ?_) (a' := ?_) #[true, true, true, true, true, true, true, true, true, false, false, false, false, false] rfl rfl (by kernel_rfl) (fun _ _ _ h => h) (Or.inl ⟨by rfl, ?_⟩) hHeld ?_ ?_
    rotate_left
    · rintro w' ⟨s0, s1, s2, s3, s4, s5, s6, s7, s8, s9, s10, s11⟩
      go_simp
      with_reducible rfl
    rotate_left
    · simp only [Act.put, List.setIfInBounds_toArray, List.set_cons_zero, List.set_cons_succ, i64_w, i32_w]
      rfl
    refine take_ (i := 9) (N := some 58) (v := ?_) (a' := ?_) #[true, true, true, true, true, true, true, true, true, true, false, false, false, false] rfl rfl (by kernel_rfl) (fun _ _ _ h => h) (Or.inl ⟨by rfl, ?_⟩) hHeld ?_ ?_
    rotate_left
    · rintro w' ⟨s0, s1, s2, s3, s4, s5, s6, s7, s8, s9, s10, s11⟩
      go_simp
      with_reducible rfl
    rotate_left
    · simp only [Act.put, List.setIfInBounds_toArray, List.set_cons_zero, List.set_cons_succ, i64_w, i32_w]
      rfl
    refine one_ (i := 10) (N := some 59) #[true, true, true, true, true, true, true, true, true, true, true, false, false, false] rfl rfl (by kernel_rfl) (by decide) (fun K hK => ?_)
    refine goes_ Tryd.func23 (by kernel_rfl) rfl #[.agg #[.int .u64 P, .int .i64 m, .int .i64 1, .bool neg, .slice A X.length c, .int .i64 x]] (by rfl) rfl rfl (by simp only [List.map_toArray, List.map_cons, List.map_nil]; rfl) ?_
    with_reducible refine (HOR.out).mono ?_
    rintro e wo ⟨A9, m9, k9, rfl, hd, hb4⟩
    refine ⟨_, rfl, ?_⟩
    rw [HE4.out] at hd
    have HD := Aside0.mk hd
    have HW4 := Aside0.mk ((HWZ.out.below (below_drew (Below.refl _ _))).below hb4)
    have HB4 := Aside0.mk (below_step HBD.out hb4)
    have KX4 := Aside0.mk (hp_below (show hp w10.drew w.heap.size = _ from KX.out) hb4)
    have KZ4 := Aside0.mk (hp_below (show hp w10.drew g5 = _ from KZ.out) hb4)
    obtain ⟨q0, q1, q2, q3, q4, q5, _, _, _, _, _, _⟩ := blk6 KX4.out
    obtain ⟨r0, r1, r2, r3, r4, r5, _, _, _, _, _, _⟩ := blk6 KZ4.out
    clear hd hb4
    refine hK.out _ _ ⟨q0, q1, q2, q3, q4, q5, r0, r1, r2, r3, r4, r5⟩ (fun hHeld => ?_)
    clear hK K
    refine norm_ (a' := ?_) ?_ ?_
    rotate_left
    · show Act.put _ (some 59) _ = _
      simp only [Act.put, List.setIfInBounds_toArray, List.set_cons_zero, List.set_cons_succ, i64_w, i32_w]
      rfl
    refine one_ (i := 11) (N := some 60) #[true, true, true, true, true, true, true, true, true, true, true, true, false, false] rfl rfl (by kernel_rfl) (by decide) (fun K hK => ?_)
    refine goes_ Tryd.func16 (by kernel_rfl) rfl #[.agg #[.int .u64 P, .int .i64 m, .int .i64 1, .bool neg, .slice A3 n3 k3, .int .i64 q], .int .u64 P, .int .i64 m, .agg #[.bool neg, .slice A9 m9 k9, .int .i64 x]] (by rfl) rfl rfl (by simp only [List.map_toArray, List.map_cons, List.map_nil]; rfl) ?_
    with_reducible refine (isReal_c P m q x neg A3 A9 n3 k3 m9 k9 z n wo HW4.out HD.out z2 HL4.out HT4.out HYX.out (by omega)).mono ?_
    rintro e wp ⟨rfl, hb5⟩
    refine ⟨_, rfl, ?_⟩
    have HB5 := Aside0.mk (below_step HB4.out hb5)
    obtain ⟨q0, q1, q2, q3, q4, q5, _, _, _, _, _, _⟩ := blk6 (hp_below KX4.out hb5)
    obtain ⟨r0, r1, r2, r3, r4, r5, _, _, _, _, _, _⟩ := blk6 (hp_below KZ4.out hb5)
    clear hb5
    refine hK.out _ _ ⟨q0, q1, q2, q3, q4, q5, r0, r1, r2, r3, r4, r5⟩ (fun hHeld => ?_)
    clear hK K
    refine norm_ (a' := ?_) ?_ ?_
    rotate_left
    · show Act.put _ (some 60) _ = _
      simp only [Act.put, List.setIfInBounds_toArray, List.set_cons_zero, List.set_cons_succ, i64_w, i32_w]
      rfl
    refine pure_ (i := 12) (N := some 61) (v := ?_) (a' := ?_) #[true, true, true, true, true, true, true, true, true, true, true, true, true, false] rfl rfl (by kernel_rfl) (fun _ _ _ h => h) (Or.inl ⟨by rfl, ?_⟩) ?_ ?_
    rotate_left
    · intro w'
      go_simp
      with_reducible rfl
    rotate_left
    · simp only [Act.put, List.setIfInBounds_toArray, List.set_cons_zero, List.set_cons_succ, i64_w, i32_w]
      rfl
    refine pure_ (i := 13) (N := some 2) (v := ?_) (a' := ?_) #[true, true, true, true, true, true, true, true, true, true, true, true, true, true] rfl rfl (by kernel_rfl) (fun _ _ _ h => h) (Or.inl ⟨by rfl, ?_⟩) ?_ ?_
    rotate_left
    · intro w'
      go_simp
      with_reducible rfl
    rotate_left
    · simp only [Act.put, List.setIfInBounds_toArray, List.set_cons_zero, List.set_cons_succ, i64_w, i32_w]
      rfl
    refine done_ (by kernel_rfl) ?_
    go_wp2_with (fail)
    go_ret
    exact ⟨rfl, HB5.out⟩
end Go.Proofs.YtglikgjaobedbaaDoor.fnJoin
