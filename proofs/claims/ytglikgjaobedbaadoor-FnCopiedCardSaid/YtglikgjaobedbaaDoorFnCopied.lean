/-
  FnCopied holds for every input.
-/
import Derived.Test.YtglikgjaobedbaaDoorCopied
namespace Go.Proofs.YtglikgjaobedbaaDoor.fnCopied
open Go.RowKit Go.Proofs.YtglikgjaobedbaaDoorW.PrintWords Go.Proofs.YtglikgjaobedbaaDoorW.PrintLast Go.Proofs.YtglikgjaobedbaaDoorW.PrintMore Go.Proofs.YtglikgjaobedbaaDoor.Dig Go.Proofs.YtglikgjaobedbaaDoor.Sp
set_option linter.unusedVariables false
set_option linter.unusedSimpArgs false
set_option maxHeartbeats 6400000 in
set_option maxRecDepth 100000 in
theorem walk (a : Int) (ha : (Lit.int .u16 a).wf = true) (d : Int) (hd : (Lit.int .u8 d).wf = true) (p m f : Int) (neg : Bool) (v : Value) (X : List Int) (x : Int) (w : World) (hv : InInts .u64 w v X) (hp : (Lit.int .u64 p).wf = true) (hm : (Lit.int .i64 m).wf = true) (hf : (Lit.int .i64 f).wf = true) (hx : (Lit.int .i64 x).wf = true) (hT : Tb w) :
    Calls Tryd.prog 9 #[.int .u16 a, .int .u8 d, .agg #[.int .u64 p, .int .i64 m, .int .i64 f, .bool neg, v, .int .i64 x]] w fun e w' => e = .returned (.bool true) ∧ Below w.heap.size w w' := by
  have hws := ws_in hv
  obtain ⟨A, c, rfl, _⟩ := hv
  have hpp := wf_u64 hp
  have ha2 := wf_u16 ha
  have hd2 := wf_u8 hd
  obtain ⟨p0, hp9⟩ : ∃ p0 : Int, p0 = a % 301 := ⟨_, rfl⟩
  obtain ⟨m0, hm9⟩ : ∃ m0 : Int, m0 = d % 6 := ⟨_, rfl⟩
  have hp2 : a % 301 = p0 := hp9.symm
  have hm2 : d % 6 = m0 := hm9.symm
  have hp3 : 0 ≤ p0 ∧ p0 < 301 := by omega
  have hm3 : 0 ≤ m0 ∧ m0 < 6 := by omega
  clear hp hm hf hx ha hd hp9 hm9
  obtain ⟨P, rfl⟩ := Int.eq_ofNat_of_zero_le hpp.1
  have hu := Tryd.underlying28
  have HB0 := Aside0.mk (below_alloc (below_alloc (Below.refl w.heap.size w) (.cells #[.int .u64 P, .int .i64 m, .int .i64 f, .bool neg, .slice A X.length c, .int .i64 x] 28)) (.cells #[.int .u64 P, .int .i64 m, .int .i64 f, .bool neg, .slice A X.length c, .int .i64 x] 28))
  have HX := Aside0.mk (hws.below HB0.out)
  have HT := Aside0.mk (hT.below HB0.out hT.2)
  clear hws
  have hgT : 2 < w.heap.size := hT.2
  clear hT
  by_cases hbb : 2147483647 < X.length
  · go_enter Tryd.func9, Tryd.ntmps9
    go_wp2_with ((fail_if_success go_at_call 21); go_in)
    go_ret
    exact ⟨rfl, HB0.out⟩
  have HRL := Aside0.mk (real_l 300 1000 P m f x neg A c X _ HX.out (by omega) (by omega) (by omega))
  go_enter Tryd.func9, Tryd.ntmps9
  go_wp2_with ((fail_if_success go_at_call 21); go_in)
  refine (HRL.out).mono ?_
  rintro e w1 ⟨r, rfl, hr, hb1⟩
  have KX := Aside0.mk (hp_below (show hp _ w.heap.size = some (.cells #[.int .u64 P, .int .i64 m, .int .i64 f, .bool neg, .slice A X.length c, .int .i64 x] 28 (0, 0)) from (by simp (disch := first | omega | (simp; omega) | (simp; done) | fail) [hp_new, hp_old, hp_here, hp_other, setObj_cells, hp_drew, hp_drewN])) hb1)
  have HB1 := Aside0.mk (below_step HB0.out hb1)
  have HX1 := Aside0.mk (HX.out.below hb1)
  have HT1 := Aside0.mk (HT.out.below hb1 HT.out.2)
  have hs1 := hp_lt KX.out
  clear hb1 HRL HB0 HX HT
  obtain ⟨c0, c1, c2, c3, c4, c5, f0, f1, f2, f3, f4, f5⟩ := blk6 KX.out
  cases r with
  | false =>
    clear hr
    go_wp2_with (fail)
    go_ret
    exact ⟨rfl, HB1.out⟩
  | true =>
    obtain ⟨z, b, n, hrok, h1⟩ := lets (hr rfl) HX1.out (by omega) (by omega)
    have H1 := Aside0.mk h1
    have hp1 := hrok.1
    have hm1 := hrok.2.1
    have HRK := Aside0.mk hrok
    clear hrok h1 hr
    obtain ⟨y, hy⟩ : ∃ y, y = tx f x n := ⟨_, rfl⟩
    obtain ⟨P0, rfl⟩ := Int.eq_ofNat_of_zero_le hp3.1
    have hcp := copied_c P0 m0 (by omega) hm3 P m f neg A X.length c x z b n X w1 HRK.out HT1.out
    rw [← hy] at hcp
    have HCP := Aside0.mk hcp
    have HY := Aside0.mk hy
    clear hcp hy
    go_wp2_with ((fail_if_success go_at_call 27); go_in)
    refine (HCP.out).mono ?_
    rintro e w2 ⟨A', mm', cc', rfl, hv2, hb2⟩
    have HB2 := Aside0.mk (below_step HB1.out hb2)
    have KX2 := Aside0.mk (hp_below KX.out hb2)
    have HX2 := Aside0.mk (HX1.out.below hb2)
    have HV2 := Aside0.mk hv2.wd
    have hs2 := hp_lt KX2.out
    clear hb2 hv2 HCP HB1 HX1 HT1 HRK KX c0 c1 c2 c3 c4 c5 f0 f1 f2 f3 f4 f5
    obtain ⟨c0, c1, c2, c3, c4, c5, f0, f1, f2, f3, f4, f5⟩ := blk6 KX2.out
    have HZ0 := Aside0.mk (below_alloc (Below.refl w2.heap.size w2) (.cells #[.int .u64 P, .int .i64 m, .int .i64 f, .bool neg, .slice A' mm' cc', .int .i64 y] 28))
    have KZ := Aside0.mk (show hp (w2.alloc (.cells #[.int .u64 P, .int .i64 m, .int .i64 f, .bool neg, .slice A' mm' cc', .int .i64 y] 28)) w2.heap.size = some (.cells #[.int .u64 P, .int .i64 m, .int .i64 f, .bool neg, .slice A' mm' cc', .int .i64 y] 28 (0, 0)) from (by simp (disch := first | omega | (simp; omega) | (simp; done) | fail) [hp_new, hp_old, hp_here, hp_other, setObj_cells, hp_drew, hp_drewN]))
    by_cases hf1 : f = 1
    case neg =>
      have e1 : (f != 1) = true := by simp [hf1]
      go_upto_region 9 with (fail)
      obtain ⟨w3, hw3⟩ : ∃ w3, w3 = w2.alloc (.cells #[.int .u64 P, .int .i64 m, .int .i64 f, .bool neg, .slice A' mm' cc', .int .i64 y] 28) := ⟨_, rfl⟩
      rw [← hw3] at HZ0 KZ ⊢
      clear hw3 c0 c1 c2 c3 c4 c5 f0 f1 f2 f3 f4 f5
      obtain ⟨c0, c1, c2, c3, c4, c5, f0, f1, f2, f3, f4, f5⟩ := blk6 (hp_below KX2.out HZ0.out)
      have hs3 := hp_lt (hp_below KX2.out HZ0.out)
      refine start_ (n := 14) (S := fun w' => w'.cell? ⟨w.heap.size, 2, none⟩ = some (.int .i64 f)) (ds := []) #[false, false, false, false, false, false, false, false, false, false, false, false, false, false] (by kernel_rfl) rfl rfl ((by go_simp)) (fun hHeld => ?_)
      refine pure_ (i := 0) (N := some 56) (v := ?_) (a' := ?_) #[true, false, false, false, false, false, false, false, false, false, false, false, false, false] rfl rfl (by kernel_rfl) (fun _ _ _ h => h) (Or.inl ⟨by rfl, ?_⟩) ?_ ?_
      rotate_left
      · intro w'
        go_simp
        with_reducible rfl
      rotate_left
      · simp only [Act.put, List.setIfInBounds_toArray, List.set_cons_zero, List.set_cons_succ, i64_w, i32_w]
        rfl
      refine take_ (i := 1) (N := some 57) (v := ?_) (a' := ?_) #[true, true, false, false, false, false, false, false, false, false, false, false, false, false] rfl rfl (by kernel_rfl) (fun _ _ _ h => h) (Or.inl ⟨by rfl, ?_⟩) hHeld ?_ ?_
      rotate_left
      · intro w' s0
        go_simp
        with_reducible rfl
      rotate_left
      · simp only [Act.put, List.setIfInBounds_toArray, List.set_cons_zero, List.set_cons_succ, i64_w, i32_w]
        rfl
      refine pure_ (i := 2) (N := some 58) (v := ?_) (a' := ?_) #[true, true, true, false, false, false, false, false, false, false, false, false, false, false] rfl rfl (by kernel_rfl) (fun _ _ _ h => h) (Or.inl ⟨by rfl, ?_⟩) ?_ ?_
      rotate_left
      · intro w'
        go_simp
        with_reducible rfl
      rotate_left
      · simp only [Act.put, List.setIfInBounds_toArray, List.set_cons_zero, List.set_cons_succ, i64_w, i32_w]
        rfl
      refine pure_ (i := 3) (N := some 59) (v := ?_) (a' := ?_) #[true, true, true, true, false, false, false, false, false, false, false, false, false, false] rfl rfl (by kernel_rfl) (fun _ _ _ h => h) (Or.inl ⟨by rfl, ?_⟩) ?_ ?_
      rotate_left
      · intro w'
        go_simp
        with_reducible rfl
      rotate_left
      · simp only [Act.put, List.setIfInBounds_toArray, List.set_cons_zero, List.set_cons_succ, i64_w, i32_w]
        rfl
      refine pure_ (i := 4) (N := some 60) (v := undef) (a' := ?_) #[true, true, true, true, true, false, false, false, false, false, false, false, false, false] rfl rfl (by kernel_rfl) (fun _ _ _ h => h) (Or.inr ⟨by rfl, rfl⟩) ?_ ?_
      rotate_left
      · simp only [Act.put, List.setIfInBounds_toArray, List.set_cons_zero, List.set_cons_succ, i64_w, i32_w]
        rfl
      refine pure_ (i := 5) (N := some 61) (v := undef) (a' := ?_) #[true, true, true, true, true, true, false, false, false, false, false, false, false, false] rfl rfl (by kernel_rfl) (fun _ _ _ h => h) (Or.inr ⟨by rfl, rfl⟩) ?_ ?_
      rotate_left
      · simp only [Act.put, List.setIfInBounds_toArray, List.set_cons_zero, List.set_cons_succ, i64_w, i32_w]
        rfl
      refine pure_ (i := 6) (N := some 62) (v := undef) (a' := ?_) #[true, true, true, true, true, true, true, false, false, false, false, false, false, false] rfl rfl (by kernel_rfl) (fun _ _ _ h => h) (Or.inr ⟨by rfl, rfl⟩) ?_ ?_
      rotate_left
      · simp only [Act.put, List.setIfInBounds_toArray, List.set_cons_zero, List.set_cons_succ, i64_w, i32_w]
        rfl
      refine pure_ (i := 7) (N := some 63) (v := undef) (a' := ?_) #[true, true, true, true, true, true, true, true, false, false, false, false, false, false] rfl rfl (by kernel_rfl) (fun _ _ _ h => h) (Or.inr ⟨by rfl, rfl⟩) ?_ ?_
      rotate_left
      · simp only [Act.put, List.setIfInBounds_toArray, List.set_cons_zero, List.set_cons_succ, i64_w, i32_w]
        rfl
      refine pure_ (i := 8) (N := some 64) (v := undef) (a' := ?_) #[true, true, true, true, true, true, true, true, true, false, false, false, false, false] rfl rfl (by kernel_rfl) (fun _ _ _ h => h) (Or.inr ⟨by rfl, rfl⟩) ?_ ?_
      rotate_left
      · simp only [Act.put, List.setIfInBounds_toArray, List.set_cons_zero, List.set_cons_succ, i64_w, i32_w]
        rfl
      refine pure_ (i := 9) (N := some 65) (v := undef) (a' := ?_) #[true, true, true, true, true, true, true, true, true, true, false, false, false, false] rfl rfl (by kernel_rfl) (fun _ _ _ h => h) (Or.inr ⟨by rfl, rfl⟩) ?_ ?_
      rotate_left
      · simp only [Act.put, List.setIfInBounds_toArray, List.set_cons_zero, List.set_cons_succ, i64_w, i32_w]
        rfl
      refine pure_ (i := 10) (N := some 66) (v := undef) (a' := ?_) #[true, true, true, true, true, true, true, true, true, true, true, false, false, false] rfl rfl (by kernel_rfl) (fun _ _ _ h => h) (Or.inr ⟨by rfl, rfl⟩) ?_ ?_
      rotate_left
      · simp only [Act.put, List.setIfInBounds_toArray, List.set_cons_zero, List.set_cons_succ, i64_w, i32_w]
        rfl
      refine pure_ (i := 11) (N := some 67) (v := undef) (a' := ?_) #[true, true, true, true, true, true, true, true, true, true, true, true, false, false] rfl rfl (by kernel_rfl) (fun _ _ _ h => h) (Or.inr ⟨by rfl, rfl⟩) ?_ ?_
      rotate_left
      · simp only [Act.put, List.setIfInBounds_toArray, List.set_cons_zero, List.set_cons_succ, i64_w, i32_w]
        rfl
      refine pure_ (i := 12) (N := some 68) (v := ?_) (a' := ?_) #[true, true, true, true, true, true, true, true, true, true, true, true, true, false] rfl rfl (by kernel_rfl) (fun _ _ _ h => h) (Or.inl ⟨by rfl, ?_⟩) ?_ ?_
      rotate_left
      · intro w'
        go_simp
        with_reducible rfl
      rotate_left
      · simp only [Act.put, List.setIfInBounds_toArray, List.set_cons_zero, List.set_cons_succ, i64_w, i32_w]
        rfl
      refine pure_ (i := 13) (N := some 6) (v := ?_) (a' := ?_) #[true, true, true, true, true, true, true, true, true, true, true, true, true, true] rfl rfl (by kernel_rfl) (fun _ _ _ h => h) (Or.inl ⟨by rfl, ?_⟩) ?_ ?_
      rotate_left
      · intro w'
        go_simp
        with_reducible rfl
      rotate_left
      · simp only [Act.put, List.setIfInBounds_toArray, List.set_cons_zero, List.set_cons_succ, i64_w, i32_w]
        rfl
      refine done_ (by kernel_rfl) ?_
      go_wp2_with (fail)
      go_ret
      exact ⟨rfl, (HB2.out.trans (HZ0.out.mono (by omega))).drew⟩
    subst hf1
    obtain ⟨z1, z2, z3, z4, z5, z6⟩ := H1.out rfl
    have hyx : y = x + n := HY.out.trans (if_pos rfl)
    have hvz : tv 1 z n = z / 2 ^ n := if_pos rfl
    rw [hvz] at HV2
    have HBW := Aside0.mk (HB2.out.trans (HZ0.out.mono (by omega)))
    have HWZ := Aside0.mk (HV2.out.below HZ0.out)
    have HXW := Aside0.mk (HX2.out.below HZ0.out)
    have HT4 := Aside0.mk z4
    have HL4 := Aside0.mk z3
    have HE4 := Aside0.mk z1
    have HYX := Aside0.mk hyx
    clear z1 z3 z4 hyx hvz
    go_upto_region 9 with (fail)
    obtain ⟨w3, hw3⟩ : ∃ w3, w3 = w2.alloc (.cells #[.int .u64 P, .int .i64 m, .int .i64 1, .bool neg, .slice A' mm' cc', .int .i64 y] 28) := ⟨_, rfl⟩
    rw [← hw3] at HZ0 KZ HBW HWZ HXW ⊢
    have KX := Aside0.mk (hp_below KX2.out HZ0.out)
    have hs3 : w2.heap.size < w3.heap.size := hp_lt KZ.out
    clear hw3 c0 c1 c2 c3 c4 c5 f0 f1 f2 f3 f4 f5
    obtain ⟨c0, c1, c2, c3, c4, c5, f0, f1, f2, f3, f4, f5⟩ := blk6 KX.out
    obtain ⟨d0, d1, d2, d3, d4, d5, g0, g1, g2, g3, g4, g5_⟩ := blk6 KZ.out
    have HBD := Aside0.mk (below_drew1 HBW.out)
    have HOR := Aside0.mk (ofReal_c P m neg A X.length c x X w3.drew (HXW.out.below (below_drew (Below.refl _ _))) (by omega))
    refine start_ (n := 14) (S := fun w' => w'.cell? ⟨w.heap.size, 0, none⟩ = some (.int .u64 P) ∧ w'.cell? ⟨w.heap.size, 1, none⟩ = some (.int .i64 m) ∧ w'.cell? ⟨w.heap.size, 2, none⟩ = some (.int .i64 1) ∧ w'.cell? ⟨w.heap.size, 3, none⟩ = some (.bool neg) ∧ w'.cell? ⟨w.heap.size, 4, none⟩ = some (.slice A X.length c) ∧ w'.cell? ⟨w.heap.size, 5, none⟩ = some (.int .i64 x) ∧ w'.cell? ⟨w2.heap.size, 0, none⟩ = some (.int .u64 P) ∧ w'.cell? ⟨w2.heap.size, 1, none⟩ = some (.int .i64 m) ∧ w'.cell? ⟨w2.heap.size, 2, none⟩ = some (.int .i64 1) ∧ w'.cell? ⟨w2.heap.size, 3, none⟩ = some (.bool neg) ∧ w'.cell? ⟨w2.heap.size, 4, none⟩ = some (.slice A' mm' cc') ∧ w'.cell? ⟨w2.heap.size, 5, none⟩ = some (.int .i64 y)) (ds := []) #[false, false, false, false, false, false, false, false, false, false, false, false, false, false] (by kernel_rfl) rfl rfl ⟨(by go_simp), (by go_simp), (by go_simp), (by go_simp), (by go_simp), (by go_simp), (by go_simp), (by go_simp), (by go_simp), (by go_simp), (by go_simp), (by go_simp)⟩ (fun hHeld => ?_)
    refine pure_ (i := 0) (N := some 56) (v := ?_) (a' := ?_) #[true, false, false, false, false, false, false, false, false, false, false, false, false, false] rfl rfl (by kernel_rfl) (fun _ _ _ h => h) (Or.inl ⟨by rfl, ?_⟩) ?_ ?_
    rotate_left
    · intro w'
      go_simp
      with_reducible rfl
    rotate_left
    · simp only [Act.put, List.setIfInBounds_toArray, List.set_cons_zero, List.set_cons_succ, i64_w, i32_w]
      rfl
    refine take_ (i := 1) (N := some 57) (v := ?_) (a' := ?_) #[true, true, false, false, false, false, false, false, false, false, false, false, false, false] rfl rfl (by kernel_rfl) (fun _ _ _ h => h) (Or.inl ⟨by rfl, ?_⟩) hHeld ?_ ?_
    rotate_left
    · rintro w' ⟨s0, s1, s2, s3, s4, s5, s6, s7, s8, s9, s10, s11⟩
      go_simp
      with_reducible rfl
    rotate_left
    · simp only [Act.put, List.setIfInBounds_toArray, List.set_cons_zero, List.set_cons_succ, i64_w, i32_w]
      rfl
    refine pure_ (i := 2) (N := some 58) (v := ?_) (a' := ?_) #[true, true, true, false, false, false, false, false, false, false, false, false, false, false] rfl rfl (by kernel_rfl) (fun _ _ _ h => h) (Or.inl ⟨by rfl, ?_⟩) ?_ ?_
    rotate_left
    · intro w'
      go_simp
      with_reducible rfl
    rotate_left
    · simp only [Act.put, List.setIfInBounds_toArray, List.set_cons_zero, List.set_cons_succ, i64_w, i32_w]
      rfl
    refine pure_ (i := 3) (N := some 59) (v := ?_) (a' := ?_) #[true, true, true, true, false, false, false, false, false, false, false, false, false, false] rfl rfl (by kernel_rfl) (fun _ _ _ h => h) (Or.inl ⟨by rfl, ?_⟩) ?_ ?_
    rotate_left
    · intro w'
      go_simp
      with_reducible rfl
    rotate_left
    · simp only [Act.put, List.setIfInBounds_toArray, List.set_cons_zero, List.set_cons_succ, i64_w, i32_w]
      rfl
    refine pure_ (i := 5) (N := some 61) (v := ?_) (a' := ?_) #[true, true, true, true, false, true, false, false, false, false, false, false, false, false] rfl rfl (by kernel_rfl) (fun _ _ _ h => h) (Or.inl ⟨by rfl, ?_⟩) ?_ ?_
    rotate_left
    · intro w'
      go_simp
      with_reducible rfl
    rotate_left
    · simp only [Act.put, List.setIfInBounds_toArray, List.set_cons_zero, List.set_cons_succ, i64_w, i32_w]
      rfl
    refine pure_ (i := 7) (N := some 63) (v := ?_) (a' := ?_) #[true, true, true, true, false, true, false, true, false, false, false, false, false, false] rfl rfl (by kernel_rfl) (fun _ _ _ h => h) (Or.inl ⟨by rfl, ?_⟩) ?_ ?_
    rotate_left
    · intro w'
      go_simp
      with_reducible rfl
    rotate_left
    · simp only [Act.put, List.setIfInBounds_toArray, List.set_cons_zero, List.set_cons_succ, i64_w, i32_w]
      rfl
    refine take_ (i := 4) (N := some 60) (v := ?_) (a' := ?_) #[true, true, true, true, true, true, false, true, false, false, false, false, false, false] rfl rfl (by kernel_rfl) (fun _ _ _ h => h) (Or.inl ⟨by rfl, ?_⟩) hHeld ?_ ?_
    rotate_left
    · rintro w' ⟨s0, s1, s2, s3, s4, s5, s6, s7, s8, s9, s10, s11⟩
      go_simp
      with_reducible rfl
    rotate_left
    · simp only [Act.put, List.setIfInBounds_toArray, List.set_cons_zero, List.set_cons_succ, i64_w, i32_w]
      rfl
    refine take_ (i := 6) (N := some 62) (v := ?_) (a' := ?_) #[true, true, true, true, true, true, true, true, false, false, false, false, false, false] rfl rfl (by kernel_rfl) (fun _ _ _ h => h) (Or.inl ⟨by rfl, ?_⟩) hHeld ?_ ?_
    rotate_left
    · rintro w' ⟨s0, s1, s2, s3, s4, s5, s6, s7, s8, s9, s10, s11⟩
      go_simp
      with_reducible rfl
    rotate_left
    · simp only [Act.put, List.setIfInBounds_toArray, List.set_cons_zero, List.set_cons_succ, i64_w, i32_w]
      rfl
    refine take_ (i := 8) (N := some 64) (v := ?_) (a' := ?_) #[true, true, true, true, true, true, true, true, true, false, false, false, false, false] rfl rfl (by kernel_rfl) (fun _ _ _ h => h) (Or.inl ⟨by rfl, ?_⟩) hHeld ?_ ?_
    rotate_left
    · rintro w' ⟨s0, s1, s2, s3, s4, s5, s6, s7, s8, s9, s10, s11⟩
      go_simp
      with_reducible rfl
    rotate_left
    · simp only [Act.put, List.setIfInBounds_toArray, List.set_cons_zero, List.set_cons_succ, i64_w, i32_w]
      rfl
    refine take_ (i := 9) (N := some 65) (v := ?_) (a' := ?_) #[true, true, true, true, true, true, true, true, true, true, false, false, false, false] rfl rfl (by kernel_rfl) (fun _ _ _ h => h) (Or.inl ⟨by rfl, ?_⟩) hHeld ?_ ?_
    rotate_left
    · rintro w' ⟨s0, s1, s2, s3, s4, s5, s6, s7, s8, s9, s10, s11⟩
      go_simp
      with_reducible rfl
    rotate_left
    · simp only [Act.put, List.setIfInBounds_toArray, List.set_cons_zero, List.set_cons_succ, i64_w, i32_w]
      rfl
    refine one_ (i := 10) (N := some 66) #[true, true, true, true, true, true, true, true, true, true, true, false, false, false] rfl rfl (by kernel_rfl) (by decide) (fun K hK => ?_)
    refine goes_ Tryd.func23 (by kernel_rfl) rfl #[.agg #[.int .u64 P, .int .i64 m, .int .i64 1, .bool neg, .slice A X.length c, .int .i64 x]] (by rfl) rfl rfl (by simp only [List.map_toArray, List.map_cons, List.map_nil]; rfl) ?_
    with_reducible refine (HOR.out).mono ?_
    rintro e wo ⟨A9, m9, k9, rfl, hd, hb4⟩
    refine ⟨_, rfl, ?_⟩
    rw [HE4.out] at hd
    have HD := Aside0.mk hd
    have HW4 := Aside0.mk ((HWZ.out.below (below_drew (Below.refl _ _))).below hb4)
    have HB4 := Aside0.mk (below_step HBD.out hb4)
    have KX4 := Aside0.mk (hp_below (show hp w3.drew w.heap.size = _ from KX.out) hb4)
    have KZ4 := Aside0.mk (hp_below (show hp w3.drew w2.heap.size = _ from KZ.out) hb4)
    obtain ⟨q0, q1, q2, q3, q4, q5, _, _, _, _, _, _⟩ := blk6 KX4.out
    obtain ⟨r0, r1, r2, r3, r4, r5, _, _, _, _, _, _⟩ := blk6 KZ4.out
    clear hd hb4
    refine hK.out _ _ ⟨q0, q1, q2, q3, q4, q5, r0, r1, r2, r3, r4, r5⟩ (fun hHeld => ?_)
    clear hK K
    refine norm_ (a' := ?_) ?_ ?_
    rotate_left
    · show Act.put _ (some 66) _ = _
      simp only [Act.put, List.setIfInBounds_toArray, List.set_cons_zero, List.set_cons_succ, i64_w, i32_w]
      rfl
    refine one_ (i := 11) (N := some 67) #[true, true, true, true, true, true, true, true, true, true, true, true, false, false] rfl rfl (by kernel_rfl) (by decide) (fun K hK => ?_)
    refine goes_ Tryd.func16 (by kernel_rfl) rfl #[.agg #[.int .u64 P, .int .i64 m, .int .i64 1, .bool neg, .slice A' mm' cc', .int .i64 y], .int .u64 P, .int .i64 m, .agg #[.bool neg, .slice A9 m9 k9, .int .i64 x]] (by rfl) rfl rfl (by simp only [List.map_toArray, List.map_cons, List.map_nil]; rfl) ?_
    with_reducible refine (isReal_c P m y x neg A' A9 mm' cc' m9 k9 z n wo HW4.out HD.out z2 HL4.out HT4.out HYX.out (by omega)).mono ?_
    rintro e wp ⟨rfl, hb5⟩
    refine ⟨_, rfl, ?_⟩
    have HB5 := Aside0.mk (below_step HB4.out hb5)
    obtain ⟨q0, q1, q2, q3, q4, q5, _, _, _, _, _, _⟩ := blk6 (hp_below KX4.out hb5)
    obtain ⟨r0, r1, r2, r3, r4, r5, _, _, _, _, _, _⟩ := blk6 (hp_below KZ4.out hb5)
    clear hb5
    refine hK.out _ _ ⟨q0, q1, q2, q3, q4, q5, r0, r1, r2, r3, r4, r5⟩ (fun hHeld => ?_)
    clear hK K
    refine norm_ (a' := ?_) ?_ ?_
    rotate_left
    · show Act.put _ (some 67) _ = _
      simp only [Act.put, List.setIfInBounds_toArray, List.set_cons_zero, List.set_cons_succ, i64_w, i32_w]
      rfl
    refine pure_ (i := 12) (N := some 68) (v := ?_) (a' := ?_) #[true, true, true, true, true, true, true, true, true, true, true, true, true, false] rfl rfl (by kernel_rfl) (fun _ _ _ h => h) (Or.inl ⟨by rfl, ?_⟩) ?_ ?_
    rotate_left
    · intro w'
      go_simp
      with_reducible rfl
    rotate_left
    · simp only [Act.put, List.setIfInBounds_toArray, List.set_cons_zero, List.set_cons_succ, i64_w, i32_w]
      rfl
    refine pure_ (i := 13) (N := some 6) (v := ?_) (a' := ?_) #[true, true, true, true, true, true, true, true, true, true, true, true, true, true] rfl rfl (by kernel_rfl) (fun _ _ _ h => h) (Or.inl ⟨by rfl, ?_⟩) ?_ ?_
    rotate_left
    · intro w'
      go_simp
      with_reducible rfl
    rotate_left
    · simp only [Act.put, List.setIfInBounds_toArray, List.set_cons_zero, List.set_cons_succ, i64_w, i32_w]
      rfl
    refine done_ (by kernel_rfl) ?_
    go_wp2_with (fail)
    go_ret
    exact ⟨rfl, HB5.out⟩
end Go.Proofs.YtglikgjaobedbaaDoor.fnCopied
