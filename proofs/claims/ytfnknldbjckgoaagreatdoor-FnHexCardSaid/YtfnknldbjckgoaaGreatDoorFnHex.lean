/-
  FnHex holds for every input.
-/
import Derived.Test.YtfnknldbjckgoaaGreatDoorSpX
import Derived.Test.YtfnknldbjckgoaaGreatDoorOddX
import Derived.Test.YtfnknldbjckgoaaGreatDoorGx1
import Derived.Test.YtfnknldbjckgoaaGreatDoorAppX
import Derived.Test.YtfnknldbjckgoaaGreatDoorGrea
namespace Go.Proofs.YtfnknldbjckgoaaGreatDoor.fnHex
open Go.RowKit Go.Proofs.YtfnknldbjckgoaaGreatDoorW.PrintWords Go.Proofs.YtfnknldbjckgoaaGreatDoorW.PrintLast Go.Proofs.YtfnknldbjckgoaaGreatDoorW.PrintMore Go.Proofs.YtfnknldbjckgoaaGreatDoor.Dig Go.Proofs.YtfnknldbjckgoaaGreatDoor.Sp
set_option linter.unusedVariables false
set_option linter.unusedSimpArgs false
theorem pw_below {w w' : World} (h : Pw w) (hb : Below w.heap.size w w') : Pw w' := ((Go.Lib.tabBelow_of_tabIs h).on hb).here
theorem tb_below {w w' : World} (h : Tb w) (hb : Below w.heap.size w w') : Tb w' := h.kept (Kept.of_below (S := fun _ => False) hb) (fun h => h)
set_option maxHeartbeats 6400000 in
set_option maxRecDepth 100000 in
theorem walk (p m f : Int) (neg : Bool) (v : Value) (X : List Int) (x : Int) (w : World) (hv : InInts .u64 w v X) (hp : (Lit.int .u64 p).wf = true) (hm : (Lit.int .i64 m).wf = true) (hf : (Lit.int .i64 f).wf = true) (hx : (Lit.int .i64 x).wf = true) (hL : Leaf w) (hT : Pw w) (hTb : Tb w) :
    Calls Tryz.prog 3 #[.agg #[.int .u64 p, .int .i64 m, .int .i64 f, .bool neg, v, .int .i64 x]] w fun e w' => e = .returned (.bool true) ∧ Below w.heap.size w w' := by
  have hws := ws_in hv
  obtain ⟨A, c, rfl, _⟩ := hv
  have hpp := wf_u64 hp
  have hpu := hpp
  clear hp hm hf hx
  obtain ⟨P, rfl⟩ := Int.eq_ofNat_of_zero_le hpp.1
  have hu := Tryz.underlying25
  have HB00 := Aside0.mk (below_alloc (Below.refl w.heap.size w) (.cells #[.int .u64 P, .int .i64 m, .int .i64 f, .bool neg, .slice A X.length c, .int .i64 x] 25))
  have HB0 := Aside0.mk (below_alloc HB00.out (.cells #[.int .u64 P, .int .i64 m, .int .i64 f, .bool neg, .slice A X.length c, .int .i64 x] 25))
  have KX := Aside0.mk (show hp ((w.alloc (.cells #[.int .u64 P, .int .i64 m, .int .i64 f, .bool neg, .slice A X.length c, .int .i64 x] 25)).alloc (.cells #[.int .u64 P, .int .i64 m, .int .i64 f, .bool neg, .slice A X.length c, .int .i64 x] 25)) w.heap.size = some (.cells #[.int .u64 P, .int .i64 m, .int .i64 f, .bool neg, .slice A X.length c, .int .i64 x] 25 (0, 0)) from (by simp (disch := first | omega | (simp; omega) | (simp; done) | fail) [hp_new, hp_old, hp_here, hp_other, setObj_cells, hp_drew, hp_drewN]))
  have HX := Aside0.mk (hws.below HB0.out)
  have HTB := Aside0.mk (tb_below hTb HB0.out)
  have HPW : Aside0 (Pw w) := ⟨hT⟩
  clear hws hL hT hTb
  by_cases hbb : 2147483647 < X.length
  · go_enter Tryz.func3, Tryz.ntmps3
    go_wp2_with ((fail_if_success go_at_call 11); go_in)
    go_ret
    exact ⟨rfl, HB0.out⟩
  obtain ⟨w2, hw2⟩ : ∃ w2, w2 = (w.alloc (.cells #[.int .u64 P, .int .i64 m, .int .i64 f, .bool neg, .slice A X.length c, .int .i64 x] 25)).alloc (.cells #[.int .u64 P, .int .i64 m, .int .i64 f, .bool neg, .slice A X.length c, .int .i64 x] 25) := ⟨_, rfl⟩
  rw [← hw2] at HB0 KX HX HTB
  have HPL := Aside0.mk (plainly_m P m f x neg A c X w2 HX.out hpp.1)
  obtain ⟨c0, c1, c2, c3, c4, c5, f0, f1, f2, f3, f4, f5⟩ := blk6 KX.out
  have l1 := hp_lt KX.out
  by_cases hok : f = 1 ∧ RealOk 200 300 P m 1 x X
  · obtain ⟨rfl, hr⟩ := hok
    have HRO := Aside0.mk hr
    obtain ⟨⟨q1, q2, q3, q4⟩, hq⟩ := hr
    have hq2 : (X.length : Int) ≤ ((P : Int) + 63) / 64 ∧ 0 < ev BW X ∧ (∃ b : Nat, Bits (ev BW X) b ∧ (b : Int) ≤ P) ∧ -300 ≤ x ∧ x ≤ 300 := by
      rcases hq with (h | h) | ⟨_, h⟩
      · omega
      · omega
      · exact h
    obtain ⟨hlen, hev, ⟨b, hb, hbP⟩, hx0, hx1⟩ := hq2
    obtain ⟨vN, hvN⟩ : ∃ vN : Nat, ev BW X = (vN : Int) := Int.eq_ofNat_of_zero_le (Int.le_of_lt hev)
    rw [hvN] at hb hev
    have hPw : IntKind.i64.wrap (P : Int) = (P : Int) := IntWalk.i64_in _ (by omega)
    have hbP2 : b ≤ P := by omega
    have hP2 : P ≤ 512 := by omega
    have hvp : 0 < vN := by omega
    have HLX : Aside0 (X.length ≤ 10000) := ⟨by omega⟩
    have HPL1 : Aside0 (Calls Tryz.prog 11 #[.agg #[.int .u64 P, .int .i64 m, .int .i64 1, .bool neg, .slice A X.length c, .int .i64 x]] w2 fun e w' => e = .returned (.bool true) ∧ Below w2.heap.size w2 w') := ⟨HPL.out.mono (by
      rintro e w' ⟨r, rfl, h, hb⟩
      obtain rfl : r = true := h.2 ⟨rfl, HRO.out⟩
      exact ⟨rfl, hb⟩)⟩
    obtain ⟨z, o, hod⟩ := oddOf hb hvp
    have HOO := Aside0.mk hod
    have hzb := hod.lt
    clear hod
    obtain ⟨k1, hk1⟩ : ∃ k1, k1 = (b - z + 2) / 4 := ⟨_, rfl⟩
    have hk9 : k1 ≤ 55 := by omega
    obtain ⟨TT, hTT⟩ : ∃ TT, TT = strOfNums (sgn1 neg ++ fmtXT neg m vN b (4 * k1 + 1) x) := ⟨_, rfl⟩
    have HTO : Aside0 (fmtXT neg m vN b (4 * k1 + 1) x = fmtXT false 0 o (b - z) (4 * k1 + 1) (x + z)) := ⟨fmtX_odd neg m vN b (4 * k1 + 1) z o x hb hvp hzb HOO.out.val (by omega) (by omega)⟩
    have HTX : Aside0 (∀ W, Below w2.heap.size w2 W → Calls Tryz.prog 14 #[.agg #[.int .u64 P, .int .i64 m, .int .i64 1, .bool neg, .slice A X.length c, .int .i64 x], .int .u8 120, .int .i64 (-1)] W fun e w' => e = .returned (.string TT) ∧ Below W.heap.size W w') := ⟨fun W hW => by
      rw [hTT]
      refine textF_c P b m 120 (-1) neg A X.length c x (vN : Int) X _ W (HX.out.below hW) HLX.out hvN hev hb hbP2 (by omega) (by omega) (by omega) (by omega) ?_
      intro w0 W0 W1 g vv hb0 hO hbu
      have hpw0 : Pw W0 := pw_below HPW.out (below_step (below_step HB0.out hW) hb0)
      have := appX_c g P vN b (4 * k1 + 1) k1 m x (-1) neg w0 W0 W1 vv [] hO hvp hb hbP2 (by omega) (by omega) (by omega) rfl (by omega) (.inl ⟨by omega, z, HOO.out.tz, hzb, hk1⟩) hbu (by simp) hpw0 (tb_below (tb_below HTB.out hW) hb0)
      rwa [List.nil_append] at this⟩
    have HOR : Aside0 (∀ W, Below w2.heap.size w2 W → Calls Tryz.prog 12 #[.agg #[.int .u64 P, .int .i64 m, .int .i64 1, .bool neg, .slice A X.length c, .int .i64 x]] W fun e w' => ∃ A' m' c', e = .returned (.agg #[.bool neg, .slice A' m' c', .int .i64 x]) ∧ Dg w' (.slice A' m' c') (vN : Int) ∧ Below W.heap.size W w') := ⟨fun W hW => by
      have := ofReal_c P m neg A X.length c x X W (HX.out.below hW) (Nat.le_trans HLX.out (by omega))
      rwa [hvN] at this⟩
    have hvL : (vN : Int) < Lim := lt_Lim b (fit_pow (Int.ofNat_lt.1 (by rw [Int.natCast_pow]; exact hb.2.1))) (by omega)
    have hoL : (o : Int) < Lim := lt_Lim (b - z) (fit_pow (Int.ofNat_lt.1 (by rw [Int.natCast_pow]; exact HOO.out.bits.2.1))) (by omega)
    have HOD : Aside0 (∀ W A' m' c', Dg W (.slice A' m' c') (vN : Int) → Calls Tryz.prog 13 #[.slice A' m' c'] W fun e w' => ∃ A2 m2 c2, e = .returned (.tuple #[.slice A2 m2 c2, .int .i64 z]) ∧ Dg w' (.slice A2 m2 c2) (o : Int) ∧ Below W.heap.size W w') := ⟨fun W A' m' c' hd => by
      rw [HOO.out.eq]
      exact odd_c A' m' c' (vN : Int) z W hd hvL HOO.out.tz (by omega)⟩
    have HLO : Aside0 (∀ W v, Dg W v (o : Int) → Calls Tryz.prog 16 #[v] W fun e w' => e = .returned (.int .i64 ((b - z : Nat) : Int)) ∧ Below W.heap.size W w') := ⟨fun W v hd => len_is _ _ (b - z) _ hd hoL HOO.out.bits⟩
    obtain ⟨q, hq⟩ : ∃ q, q = b - z := ⟨_, rfl⟩
    rw [← hq] at HLO
    have HHP : Aside0 (∀ W A' m' c', Dg W (.slice A' m' c') (o : Int) → Calls Tryz.prog 15 #[.agg #[.bool neg, .slice A' m' c', .int .i64 (wrap64 (x + (z : Int)))], .int .i64 (wrap64 ((wrap64 ((q : Int) + 2)).tdiv 4))] W fun e w' => e = .returned (.string TT) ∧ Below W.heap.size W w') := ⟨fun W A' m' c' hd => by
      rw [hTT, HTO.out]
      have H1 : Aside0 (wrap64 (x + (z : Int)) = x + (z : Int)) := ⟨w64 (by omega) (by omega)⟩
      have H2 : Aside0 (wrap64 ((wrap64 ((q : Int) + 2)).tdiv 4) = (k1 : Int)) := ⟨by
        rw [w64 (i := (q : Int) + 2) (by omega) (by omega), Int.tdiv_eq_ediv_of_nonneg (by omega), w64 (by omega) (by omega)]
        omega⟩
      rw [H1.out, H2.out]
      exact hexPoint_c neg A' m' c' o (b - z) k1 (x + (z : Int)) W hd HOO.out.pos HOO.out.bits (by omega) (by omega) (by omega)⟩
    clear HPL HRO hq hlen hev hb hbP hx0 hx1 hvN hTT hbP2 hP2 hvp hzb hk1 HTO hvL hoL HOO
    go_enter Tryz.func3, Tryz.ntmps3
    go_wp2_with ((fail_if_success go_at_call 11); go_in)
    rw [← hw2]
    clear hw2
    refine HPL1.out.mono ?_
    rintro e w3 ⟨rfl, hb3⟩
    have HB3 := Aside0.mk (below_step HB0.out hb3)
    have HV3 := Aside0.mk hb3
    have KX3 := Aside0.mk (hp_below KX.out hb3)
    clear hb3 c0 c1 c2 c3 c4 c5 f0 f1 f2 f3 f4 f5 l1
    obtain ⟨c0, c1, c2, c3, c4, c5, f0, f1, f2, f3, f4, f5⟩ := blk6 KX3.out
    have l1 := hp_lt KX3.out
    go_wp2_with (go_at_call 12; refine (HOR.out w3 HV3.out).mono ?_; rintro e w4 ⟨A5, m5, cc5, rfl, hd5, hb4⟩; have HB4 := Aside0.mk (below_step HB3.out hb4); have HV4 := Aside0.mk (below_step HV3.out hb4); have KX4 := Aside0.mk (hp_below KX3.out hb4); have HD5 := Aside0.mk hd5; clear hb4 hd5)
    have HB5 := Aside0.mk (below_alloc HB4.out (.cells #[.bool neg, .slice A5 m5 cc5, .int .i64 x] 30))
    have HV5 := Aside0.mk (below_alloc HV4.out (.cells #[.bool neg, .slice A5 m5 cc5, .int .i64 x] 30))
    have hb45 := below_alloc (Below.refl w4.heap.size w4) (.cells #[.bool neg, .slice A5 m5 cc5, .int .i64 x] 30)
    have KX5 := Aside0.mk (hp_below KX4.out hb45)
    have KD5 := Aside0.mk (show hp (w4.alloc (.cells #[.bool neg, .slice A5 m5 cc5, .int .i64 x] 30)) w4.heap.size = some (.cells #[.bool neg, .slice A5 m5 cc5, .int .i64 x] 30 (0, 0)) from hp_new _ _ _ rfl)
    refine (HOD.out _ A5 m5 cc5 (HD5.out.below hb45)).mono ?_
    rintro e w6 ⟨A6, m6, c6, rfl, hd6, hb6⟩
    have HB6 := Aside0.mk (below_step HB5.out hb6)
    have HV6 := Aside0.mk (below_step HV5.out hb6)
    have KX6 := Aside0.mk (hp_below KX5.out hb6)
    have KD6 := Aside0.mk (hp_below KD5.out hb6)
    have HD6 := Aside0.mk hd6
    obtain ⟨gd, hgd⟩ : ∃ gd, gd = w4.heap.size := ⟨_, rfl⟩
    rw [← hgd] at KD6 ⊢
    clear hgd hb6 hd6 hb45 KD5 KX5 HB5 HV5 c0 c1 c2 c3 c4 c5 f0 f1 f2 f3 f4 f5 l1
    obtain ⟨c0, c1, c2, c3, c4, c5', f0, f1, f2, f3, f4, f5⟩ := blk6 KX6.out
    have l1 := hp_lt KX6.out
    obtain ⟨d0, d1, d2, g0, g1, g2⟩ := blk3 KD6.out
    have l2 := hp_lt KD6.out
    go_wp2_with (fail)
    refine start_ (n := 17) (S := fun w' => w'.cell? ⟨w.heap.size, 0, none⟩ = some (.int .u64 P) ∧ w'.cell? ⟨w.heap.size, 1, none⟩ = some (.int .i64 m) ∧ w'.cell? ⟨w.heap.size, 2, none⟩ = some (.int .i64 1) ∧ w'.cell? ⟨w.heap.size, 3, none⟩ = some (.bool neg) ∧ w'.cell? ⟨w.heap.size, 4, none⟩ = some (.slice A X.length c) ∧ w'.cell? ⟨w.heap.size, 5, none⟩ = some (.int .i64 x) ∧ w'.cell? ⟨gd, 0, none⟩ = some (.bool neg) ∧ w'.cell? ⟨gd, 2, none⟩ = some (.int .i64 x)) (ds := []) #[false, false, false, false, false, false, false, false, false, false, false, false, false, false, false, false, false] (by kernel_rfl) rfl rfl ⟨(by go_simp), (by go_simp), (by go_simp), (by go_simp), (by go_simp), (by go_simp), (by go_simp), (by go_simp)⟩ (fun hHeld => ?_)
    refine pure_ (i := 2) (N := some 22) (v := ?_) (a' := ?_) #[false, false, true, false, false, false, false, false, false, false, false, false, false, false, false, false, false] rfl rfl (by kernel_rfl) (fun _ _ _ h => h) (Or.inl ⟨by rfl, ?_⟩) ?_ ?_
    rotate_left
    · intro w'
      go_simp
      with_reducible rfl
    rotate_left
    · simp only [Act.put, List.setIfInBounds_toArray, List.set_cons_zero, List.set_cons_succ, i64_w, i32_w]
      rfl
    refine pure_ (i := 4) (N := some 24) (v := ?_) (a' := ?_) #[false, false, true, false, true, false, false, false, false, false, false, false, false, false, false, false, false] rfl rfl (by kernel_rfl) (fun _ _ _ h => h) (Or.inl ⟨by rfl, ?_⟩) ?_ ?_
    rotate_left
    · intro w'
      go_simp
      with_reducible rfl
    rotate_left
    · simp only [Act.put, List.setIfInBounds_toArray, List.set_cons_zero, List.set_cons_succ, i64_w, i32_w]
      rfl
    refine pure_ (i := 5) (N := some 25) (v := ?_) (a' := ?_) #[false, false, true, false, true, true, false, false, false, false, false, false, false, false, false, false, false] rfl rfl (by kernel_rfl) (fun _ _ _ h => h) (Or.inl ⟨by rfl, ?_⟩) ?_ ?_
    rotate_left
    · intro w'
      go_simp
      with_reducible rfl
    rotate_left
    · simp only [Act.put, List.setIfInBounds_toArray, List.set_cons_zero, List.set_cons_succ, i64_w, i32_w]
      rfl
    refine pure_ (i := 7) (N := some 27) (v := ?_) (a' := ?_) #[false, false, true, false, true, true, false, true, false, false, false, false, false, false, false, false, false] rfl rfl (by kernel_rfl) (fun _ _ _ h => h) (Or.inl ⟨by rfl, ?_⟩) ?_ ?_
    rotate_left
    · intro w'
      go_simp
      with_reducible rfl
    rotate_left
    · simp only [Act.put, List.setIfInBounds_toArray, List.set_cons_zero, List.set_cons_succ, i64_w, i32_w]
      rfl
    refine pure_ (i := 10) (N := some 30) (v := ?_) (a' := ?_) #[false, false, true, false, true, true, false, true, false, false, true, false, false, false, false, false, false] rfl rfl (by kernel_rfl) (fun _ _ _ h => h) (Or.inl ⟨by rfl, ?_⟩) ?_ ?_
    rotate_left
    · intro w'
      go_simp
      with_reducible rfl
    rotate_left
    · simp only [Act.put, List.setIfInBounds_toArray, List.set_cons_zero, List.set_cons_succ, i64_w, i32_w]
      rfl
    refine take_ (i := 0) (N := some 20) (v := ?_) (a' := ?_) #[true, false, true, false, true, true, false, true, false, false, true, false, false, false, false, false, false] rfl rfl (by kernel_rfl) (fun _ _ _ h => h) (Or.inl ⟨by rfl, ?_⟩) hHeld ?_ ?_
    rotate_left
    · rintro w' ⟨s0, s1, s2, s3, s4, s5, s6, s7⟩
      go_simp
      with_reducible rfl
    rotate_left
    · simp only [Act.put, List.setIfInBounds_toArray, List.set_cons_zero, List.set_cons_succ, i64_w, i32_w]
      rfl
    refine take_ (i := 3) (N := some 23) (v := ?_) (a' := ?_) #[true, false, true, true, true, true, false, true, false, false, true, false, false, false, false, false, false] rfl rfl (by kernel_rfl) (fun _ _ _ h => h) (Or.inl ⟨by rfl, ?_⟩) hHeld ?_ ?_
    rotate_left
    · rintro w' ⟨s0, s1, s2, s3, s4, s5, s6, s7⟩
      go_simp
      with_reducible rfl
    rotate_left
    · simp only [Act.put, List.setIfInBounds_toArray, List.set_cons_zero, List.set_cons_succ, i64_w, i32_w]
      rfl
    refine take_ (i := 6) (N := some 26) (v := ?_) (a' := ?_) #[true, false, true, true, true, true, true, true, false, false, true, false, false, false, false, false, false] rfl rfl (by kernel_rfl) (fun _ _ _ h => h) (Or.inl ⟨by rfl, ?_⟩) hHeld ?_ ?_
    rotate_left
    · rintro w' ⟨s0, s1, s2, s3, s4, s5, s6, s7⟩
      go_simp
      with_reducible rfl
    rotate_left
    · simp only [Act.put, List.setIfInBounds_toArray, List.set_cons_zero, List.set_cons_succ, i64_w, i32_w]
      rfl
    refine pure_ (i := 8) (N := some 28) (v := ?_) (a' := ?_) #[true, false, true, true, true, true, true, true, true, false, true, false, false, false, false, false, false] rfl rfl (by kernel_rfl) (fun _ _ _ h => h) (Or.inl ⟨by rfl, ?_⟩) ?_ ?_
    rotate_left
    · intro w'
      go_simp
      with_reducible rfl
    rotate_left
    · simp only [Act.put, List.setIfInBounds_toArray, List.set_cons_zero, List.set_cons_succ, i64_w, i32_w]
      rfl
    refine pure_ (i := 9) (N := some 29) (v := ?_) (a' := ?_) #[true, false, true, true, true, true, true, true, true, true, true, false, false, false, false, false, false] rfl rfl (by kernel_rfl) (fun _ _ _ h => h) (Or.inl ⟨by rfl, ?_⟩) ?_ ?_
    rotate_left
    · intro w'
      go_simp
      with_reducible rfl
    rotate_left
    · simp only [Act.put, List.setIfInBounds_toArray, List.set_cons_zero, List.set_cons_succ, i64_w, i32_w]
      rfl
    refine one_ (i := 1) (N := some 21) #[true, true, true, true, true, true, true, true, true, true, true, false, false, false, false, false, false] rfl rfl (by kernel_rfl) (by decide) (fun K hK => ?_)
    refine goes_ Tryz.func14 (by kernel_rfl) rfl #[.agg #[.int .u64 P, .int .i64 m, .int .i64 1, .bool neg, .slice A X.length c, .int .i64 x], .int .u8 120, .int .i64 (-1)] (by rfl) rfl rfl (by simp only [List.map_toArray, List.map_cons, List.map_nil]; rfl) ?_
    with_reducible refine (HTX.out _ (below_drew1 HV6.out)).mono ?_
    rintro e w7 ⟨rfl, hb7⟩
    refine ⟨_, rfl, ?_⟩
    have HB7 := Aside0.mk (below_step (below_drew1 HB6.out) hb7)
    have KX7 := Aside0.mk (hp_below (show hp w6.drew w.heap.size = _ from KX6.out) hb7)
    have KD7 := Aside0.mk (hp_below (show hp w6.drew gd = _ from KD6.out) hb7)
    have HD7 := Aside0.mk ((HD6.out.below (below_drew (Below.refl _ _))).below hb7)
    obtain ⟨q0, q1, q2, q3, q4, q5, _, _, _, _, _, _⟩ := blk6 KX7.out
    obtain ⟨r0, r1, r2, _, _, _⟩ := blk3 KD7.out
    clear hb7
    refine hK.out _ _ ⟨q0, q1, q2, q3, q4, q5, r0, r2⟩ (fun hHeld => ?_)
    clear hK K
    refine norm_ (a' := ?_) ?_ ?_
    rotate_left
    · show Act.put _ (some 21) _ = _
      simp only [Act.put, List.setIfInBounds_toArray, List.set_cons_zero, List.set_cons_succ, i64_w, i32_w]
      rfl
    refine one_ (i := 11) (N := some 31) #[true, true, true, true, true, true, true, true, true, true, true, true, false, false, false, false, false] rfl rfl (by kernel_rfl) (by decide) (fun K hK => ?_)
    refine goes_ Tryz.func16 (by kernel_rfl) rfl #[.slice A6 m6 c6] (by rfl) rfl rfl (by simp only [List.map_toArray, List.map_cons, List.map_nil]; rfl) ?_
    with_reducible refine (HLO.out w7 _ HD7.out).mono ?_
    rintro e w8 ⟨rfl, hb8⟩
    refine ⟨_, rfl, ?_⟩
    have HB8 := Aside0.mk (below_step HB7.out hb8)
    have KX8 := Aside0.mk (hp_below KX7.out hb8)
    have KD8 := Aside0.mk (hp_below KD7.out hb8)
    have HD8 := Aside0.mk (HD7.out.below hb8)
    obtain ⟨q0, q1, q2, q3, q4, q5, _, _, _, _, _, _⟩ := blk6 KX8.out
    obtain ⟨r0, r1, r2, _, _, _⟩ := blk3 KD8.out
    clear hb8
    refine hK.out _ _ ⟨q0, q1, q2, q3, q4, q5, r0, r2⟩ (fun hHeld => ?_)
    clear hK K
    refine norm_ (a' := ?_) ?_ ?_
    rotate_left
    · show Act.put _ (some 31) _ = _
      simp only [Act.put, List.setIfInBounds_toArray, List.set_cons_zero, List.set_cons_succ, i64_w, i32_w]
      rfl
    refine pure_ (i := 12) (N := some 32) (v := ?_) (a' := ?_) #[true, true, true, true, true, true, true, true, true, true, true, true, true, false, false, false, false] rfl rfl (by kernel_rfl) (fun _ _ _ h => h) (Or.inl ⟨by rfl, ?_⟩) ?_ ?_
    rotate_left
    · intro w'
      go_simp
      with_reducible rfl
    rotate_left
    · simp only [Act.put, List.setIfInBounds_toArray, List.set_cons_zero, List.set_cons_succ, i64_w, i32_w]
      rfl
    refine pure_ (i := 13) (N := some 33) (v := ?_) (a' := ?_) #[true, true, true, true, true, true, true, true, true, true, true, true, true, true, false, false, false] rfl rfl (by kernel_rfl) (fun _ _ _ h => h) (Or.inl ⟨by rfl, ?_⟩) ?_ ?_
    rotate_left
    · intro w'
      go_simp
      with_reducible rfl
    rotate_left
    · simp only [Act.put, List.setIfInBounds_toArray, List.set_cons_zero, List.set_cons_succ, i64_w, i32_w]
      rfl
    refine one_ (i := 14) (N := some 34) #[true, true, true, true, true, true, true, true, true, true, true, true, true, true, true, false, false] rfl rfl (by kernel_rfl) (by decide) (fun K hK => ?_)
    refine goes_ Tryz.func15 (by kernel_rfl) rfl #[.agg #[.bool neg, .slice A6 m6 c6, .int .i64 (wrap64 (x + (z : Int)))], .int .i64 (wrap64 ((wrap64 ((q : Int) + 2)).tdiv 4))] (by rfl) rfl rfl (by simp only [List.map_toArray, List.map_cons, List.map_nil]; rfl) ?_
    with_reducible refine (HHP.out w8 A6 m6 c6 HD8.out).mono ?_
    rintro e w9 ⟨rfl, hb9⟩
    refine ⟨_, rfl, ?_⟩
    have HB9 := Aside0.mk (below_step HB8.out hb9)
    have KX9 := Aside0.mk (hp_below KX8.out hb9)
    have KD9 := Aside0.mk (hp_below KD8.out hb9)
    obtain ⟨q0, q1, q2, q3, q4, q5, _, _, _, _, _, _⟩ := blk6 KX9.out
    obtain ⟨r0, r1, r2, _, _, _⟩ := blk3 KD9.out
    clear hb9
    refine hK.out _ _ ⟨q0, q1, q2, q3, q4, q5, r0, r2⟩ (fun hHeld => ?_)
    clear hK K
    refine norm_ (a' := ?_) ?_ ?_
    rotate_left
    · show Act.put _ (some 34) _ = _
      simp only [Act.put, List.setIfInBounds_toArray, List.set_cons_zero, List.set_cons_succ, i64_w, i32_w]
      rfl
    refine pure_ (i := 15) (N := some 35) (v := ?_) (a' := ?_) #[true, true, true, true, true, true, true, true, true, true, true, true, true, true, true, true, false] rfl rfl (by kernel_rfl) (fun _ _ _ h => h) (Or.inl ⟨by rfl, ?_⟩) ?_ ?_
    rotate_left
    · intro w'
      go_simp
      with_reducible rfl
    rotate_left
    · simp only [Act.put, List.setIfInBounds_toArray, List.set_cons_zero, List.set_cons_succ, i64_w, i32_w]
      rfl
    refine pure_ (i := 16) (N := some 2) (v := ?_) (a' := ?_) #[true, true, true, true, true, true, true, true, true, true, true, true, true, true, true, true, true] rfl rfl (by kernel_rfl) (fun _ _ _ h => h) (Or.inl ⟨by rfl, ?_⟩) ?_ ?_
    rotate_left
    · intro w'
      go_simp
      with_reducible rfl
    rotate_left
    · simp only [Act.put, List.setIfInBounds_toArray, List.set_cons_zero, List.set_cons_succ, i64_w, i32_w]
      rfl
    refine done_ (by kernel_rfl) ?_
    go_wp2_with (fail)
    go_ret
    exact ⟨rfl, HB9.out⟩
  · have HPL1 : Aside0 (Calls Tryz.prog 11 #[.agg #[.int .u64 P, .int .i64 m, .int .i64 f, .bool neg, .slice A X.length c, .int .i64 x]] w2 fun e w' => e = .returned (.bool false) ∧ Below w2.heap.size w2 w') := ⟨HPL.out.mono (by
      rintro e w' ⟨r, rfl, h, hb⟩
      refine ⟨?_, hb⟩
      cases r with
      | false => rfl
      | true => exact absurd (h.1 rfl) hok)⟩
    clear HPL hok
    go_enter Tryz.func3, Tryz.ntmps3
    go_wp2_with ((fail_if_success go_at_call 11); go_in)
    rw [← hw2]
    clear hw2
    refine HPL1.out.mono ?_
    rintro e w3 ⟨rfl, hb3⟩
    have HB3 := Aside0.mk (below_step HB0.out hb3)
    clear hb3
    go_wp2_with (fail)
    go_ret
    exact ⟨rfl, HB3.out⟩
end Go.Proofs.YtfnknldbjckgoaaGreatDoor.fnHex
