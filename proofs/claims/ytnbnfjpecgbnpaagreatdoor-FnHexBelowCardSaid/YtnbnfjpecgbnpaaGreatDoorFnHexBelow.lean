/-
  FnHexBelow holds for every input.
-/
import Derived.Test.YtnbnfjpecgbnpaaGreatDoorSpH
import Derived.Test.YtnbnfjpecgbnpaaGreatDoorAppP
import Derived.Test.YtnbnfjpecgbnpaaGreatDoorGrea
namespace Go.Proofs.YtnbnfjpecgbnpaaGreatDoor.fnHexBelow
open Go.RowKit Go.Proofs.YtnbnfjpecgbnpaaGreatDoorW.PrintWords Go.Proofs.YtnbnfjpecgbnpaaGreatDoorW.PrintLast Go.Proofs.YtnbnfjpecgbnpaaGreatDoorW.PrintMore Go.Proofs.YtnbnfjpecgbnpaaGreatDoor.Dig Go.Proofs.YtnbnfjpecgbnpaaGreatDoor.Sp
set_option linter.unusedVariables false
set_option linter.unusedSimpArgs false
theorem pw_below {w w' : World} (h : Pw w) (hb : Below w.heap.size w w') : Pw w' := ((Go.Lib.tabBelow_of_tabIs h).on hb).here
theorem tb_below {w w' : World} (h : Tb w) (hb : Below w.heap.size w w') : Tb w' := h.kept (Kept.of_below (S := fun _ => False) hb) (fun h => h)
set_option maxHeartbeats 6400000 in
set_option maxRecDepth 100000 in
theorem walk (p m f : Int) (neg : Bool) (v : Value) (X : List Int) (x : Int) (n : Int) (hn : (Lit.int .u8 n).wf = true) (w : World) (hv : InInts .u64 w v X) (hp : (Lit.int .u64 p).wf = true) (hm : (Lit.int .i64 m).wf = true) (hf : (Lit.int .i64 f).wf = true) (hx : (Lit.int .i64 x).wf = true) (hL : Leaf w) (hT : Pw w) (hTb : Tb w) :
    Calls Tryz.prog 3 #[.agg #[.int .u64 p, .int .i64 m, .int .i64 f, .bool neg, v, .int .i64 x], .int .u8 n] w fun e w' => e = .returned (.bool true) ∧ Below w.heap.size w w' := by
  have hws := ws_in hv
  obtain ⟨A, c, rfl, _⟩ := hv
  have hpp := wf_u64 hp
  have hn2 := wf_u8 hn
  have hpu := hpp
  clear hp hm hf hx hn
  obtain ⟨P, rfl⟩ := Int.eq_ofNat_of_zero_le hpp.1
  have hu := Tryz.underlying25
  have HB00 := Aside0.mk (below_alloc (Below.refl w.heap.size w) (.cells #[.int .u64 P, .int .i64 m, .int .i64 f, .bool neg, .slice A X.length c, .int .i64 x] 25))
  have HB0 := Aside0.mk (below_alloc HB00.out (.cells #[.int .u64 P, .int .i64 m, .int .i64 f, .bool neg, .slice A X.length c, .int .i64 x] 25))
  have KX := Aside0.mk (show hp ((w.alloc (.cells #[.int .u64 P, .int .i64 m, .int .i64 f, .bool neg, .slice A X.length c, .int .i64 x] 25)).alloc (.cells #[.int .u64 P, .int .i64 m, .int .i64 f, .bool neg, .slice A X.length c, .int .i64 x] 25)) w.heap.size = some (.cells #[.int .u64 P, .int .i64 m, .int .i64 f, .bool neg, .slice A X.length c, .int .i64 x] 25 (0, 0)) from (by simp (disch := first | omega | (simp; omega) | (simp; done) | fail) [hp_new, hp_old, hp_here, hp_other, setObj_cells, hp_drew, hp_drewN]))
  have HX := Aside0.mk (hws.below HB0.out)
  have HTB := Aside0.mk (tb_below hTb HB0.out)
  have HPW : Aside0 (Pw w) := ⟨hT⟩
  clear hws hL hT hTb
  by_cases hbb : 2147483647 < X.length
  · go_enter Tryz.func3, Tryz.ntmps3
    go_wp2_with ((fail_if_success go_at_call 8); go_in)
    go_ret
    exact ⟨rfl, HB0.out⟩
  obtain ⟨w2, hw2⟩ : ∃ w2, w2 = (w.alloc (.cells #[.int .u64 P, .int .i64 m, .int .i64 f, .bool neg, .slice A X.length c, .int .i64 x] 25)).alloc (.cells #[.int .u64 P, .int .i64 m, .int .i64 f, .bool neg, .slice A X.length c, .int .i64 x] 25) := ⟨_, rfl⟩
  rw [← hw2] at HB0 KX HX HTB
  have HPL := Aside0.mk (plainly_m P m f x neg A c X w2.drew (HX.out.below (below_drew (Below.refl _ _))) hpp.1)
  have HBD := Aside0.mk (below_drew1 HB0.out)
  obtain ⟨c0, c1, c2, c3, c4, c5, f0, f1, f2, f3, f4, f5⟩ := blk6 KX.out
  have l1 := hp_lt KX.out
  by_cases hok : f = 1 ∧ RealOk 200 300 P m 1 x X
  · obtain ⟨rfl, hr⟩ := hok
    have HRO := Aside0.mk hr
    obtain ⟨⟨q1, q2, q3, q4⟩, hq⟩ := hr
    have hq2 : (X.length : Int) ≤ ((P : Int) + 63) / 64 ∧ 0 < ev BW X ∧ (∃ b : Nat, Bits (ev BW X) b ∧ (b : Int) ≤ P) ∧ -300 ≤ x ∧ x ≤ 300 := by
      rcases hq with (h | h) | ⟨_, h⟩
      · omega
      · omega
      · exact h
    obtain ⟨hlen, hev, ⟨b, hb, hbP⟩, hx0, hx1⟩ := hq2
    obtain ⟨vN, hvN⟩ : ∃ vN : Nat, ev BW X = (vN : Int) := Int.eq_ofNat_of_zero_le (Int.le_of_lt hev)
    rw [hvN] at hb hev
    have hnw : IntKind.i64.wrap n = n := IntWalk.i64_in _ (by omega)
    have hkw : IntKind.i64.wrap (n - 5) = n - 5 := IntWalk.i64_in _ (by omega)
    have hk3 : -100000 ≤ n - 5 ∧ n - 5 ≤ 100000 := by omega
    have hPw : IntKind.i64.wrap (P : Int) = (P : Int) := IntWalk.i64_in _ (by omega)
    have hbP2 : b ≤ P := by omega
    have hP2 : P ≤ 512 := by omega
    have hvp : 0 < vN := by omega
    have HLX : Aside0 (X.length ≤ 10000) := ⟨by omega⟩
    have HPL1 : Aside0 (Calls Tryz.prog 8 #[.agg #[.int .u64 P, .int .i64 m, .int .i64 1, .bool neg, .slice A X.length c, .int .i64 x]] w2.drew fun e w' => e = .returned (.bool true) ∧ Below w2.drew.heap.size w2.drew w') := ⟨HPL.out.mono (by
      rintro e w' ⟨r, rfl, h, hb⟩
      obtain rfl : r = true := h.2 ⟨rfl, HRO.out⟩
      exact ⟨rfl, hb⟩)⟩
    obtain ⟨TT, hTT⟩ : ∃ TT, TT = strOfNums (sgn1 neg ++ fmtPT vN b x) := ⟨_, rfl⟩
    have HTX : Aside0 (∀ W, Below w2.heap.size w2 W → Calls Tryz.prog 9 #[.agg #[.int .u64 P, .int .i64 m, .int .i64 1, .bool neg, .slice A X.length c, .int .i64 x], .int .u8 112, .int .i64 (n - 5)] W fun e w' => e = .returned (.string TT) ∧ Below W.heap.size W w') := ⟨fun W hW => by
      rw [hTT]
      refine textF_c P b m 112 (n - 5) neg A X.length c x (vN : Int) X _ W (HX.out.below hW) HLX.out hvN hev hb hbP2 (by omega) (by omega) (by omega) hk3 ?_
      intro w0 W0 W1 g vv hb0 ho hbu
      have hpw0 : Pw W0 := pw_below HPW.out (below_step (below_step HB0.out hW) hb0)
      have := appP_c g P vN b m x (n - 5) neg w0 W0 W1 vv [] ho hvp hb hbP2 (by omega) (by omega) hbu (by simp) hpw0 (tb_below (tb_below HTB.out hW) hb0)
      rwa [List.nil_append] at this⟩
    have HOR : Aside0 (∀ W, Below w2.heap.size w2 W → Calls Tryz.prog 11 #[.agg #[.int .u64 P, .int .i64 m, .int .i64 1, .bool neg, .slice A X.length c, .int .i64 x]] W fun e w' => ∃ A' m' c', e = .returned (.agg #[.bool neg, .slice A' m' c', .int .i64 x]) ∧ Dg w' (.slice A' m' c') (vN : Int) ∧ Below W.heap.size W w') := ⟨fun W hW => by
      have := ofReal_c P m neg A X.length c x X W (HX.out.below hW) (Nat.le_trans HLX.out (by omega))
      rwa [hvN] at this⟩
    have HWH : Aside0 (∀ W A' m' c', Dg W (.slice A' m' c') (vN : Int) → Calls Tryz.prog 10 #[.agg #[.bool neg, .slice A' m' c', .int .i64 x]] W fun e w' => e = .returned (.string TT) ∧ Below W.heap.size W w') := ⟨fun W A' m' c' hd => by
      rw [hTT]
      exact hexBelow_c neg A' m' c' vN b x W hd hvp hb (by omega) (by omega)⟩
    clear HPL HRO hq hlen hev hb hbP hx0 hx1 hvN hTT hbP2 hP2 hvp
    go_enter Tryz.func3, Tryz.ntmps3
    go_wp2_with ((fail_if_success go_at_call 8); go_in)
    rw [← hw2]
    clear hw2
    refine start_ (n := 15) (S := fun w' => w'.cell? ⟨w.heap.size, 0, none⟩ = some (.int .u64 P) ∧ w'.cell? ⟨w.heap.size, 1, none⟩ = some (.int .i64 m) ∧ w'.cell? ⟨w.heap.size, 2, none⟩ = some (.int .i64 1) ∧ w'.cell? ⟨w.heap.size, 3, none⟩ = some (.bool neg) ∧ w'.cell? ⟨w.heap.size, 4, none⟩ = some (.slice A X.length c) ∧ w'.cell? ⟨w.heap.size, 5, none⟩ = some (.int .i64 x)) (ds := []) #[false, false, false, false, false, false, false, false, false, false, false, false, false, false, false] (by kernel_rfl) rfl rfl ⟨(by go_simp), (by go_simp), (by go_simp), (by go_simp), (by go_simp), (by go_simp)⟩ (fun hHeld => ?_)
    refine take_ (i := 0) (N := some 8) (v := ?_) (a' := ?_) #[true, false, false, false, false, false, false, false, false, false, false, false, false, false, false] rfl rfl (by kernel_rfl) (fun _ _ _ h => h) (Or.inl ⟨by rfl, ?_⟩) hHeld ?_ ?_
    rotate_left
    · rintro w' ⟨s0, s1, s2, s3, s4, s5⟩
      go_simp
      with_reducible rfl
    rotate_left
    · simp only [Act.put, List.setIfInBounds_toArray, List.set_cons_zero, List.set_cons_succ, i64_w, i32_w]
      rfl
    refine one_ (i := 1) (N := some 9) #[true, true, false, false, false, false, false, false, false, false, false, false, false, false, false] rfl rfl (by kernel_rfl) (by decide) (fun K hK => ?_)
    refine goes_ Tryz.func8 (by kernel_rfl) rfl #[.agg #[.int .u64 P, .int .i64 m, .int .i64 1, .bool neg, .slice A X.length c, .int .i64 x]] (by rfl) rfl rfl (by simp only [List.map_toArray, List.map_cons, List.map_nil]; rfl) ?_
    with_reducible refine (HPL1.out).mono ?_
    rintro e w3 ⟨rfl, hb3⟩
    refine ⟨_, rfl, ?_⟩
    have HB3 := Aside0.mk (below_step HBD.out hb3)
    have HV3 := Aside0.mk (below_step (below_drew (Below.refl w2.heap.size w2)) hb3)
    have KX3 := Aside0.mk (hp_below (show hp w2.drew w.heap.size = _ from KX.out) hb3)
    obtain ⟨q0, q1, q2, q3, q4, q5, _, _, _, _, _, _⟩ := blk6 KX3.out
    clear hb3
    refine hK.out _ _ ⟨q0, q1, q2, q3, q4, q5⟩ (fun hHeld => ?_)
    clear hK K
    refine norm_ (a' := ?_) ?_ ?_
    rotate_left
    · show Act.put _ (some 9) _ = _
      simp only [Act.put, List.setIfInBounds_toArray, List.set_cons_zero, List.set_cons_succ, i64_w, i32_w]
      rfl
    refine pure_ (i := 2) (N := some 10) (v := ?_) (a' := ?_) #[true, true, true, false, false, false, false, false, false, false, false, false, false, false, false] rfl rfl (by kernel_rfl) (fun _ _ _ h => h) (Or.inl ⟨by rfl, ?_⟩) ?_ ?_
    rotate_left
    · intro w'
      go_simp
      with_reducible rfl
    rotate_left
    · simp only [Act.put, List.setIfInBounds_toArray, List.set_cons_zero, List.set_cons_succ, i64_w, i32_w]
      rfl
    refine pure_ (i := 3) (N := some 11) (v := ?_) (a' := ?_) #[true, true, true, true, false, false, false, false, false, false, false, false, false, false, false] rfl rfl (by kernel_rfl) (fun _ _ _ h => h) (Or.inl ⟨by rfl, ?_⟩) ?_ ?_
    rotate_left
    · intro w'
      go_simp
      with_reducible rfl
    rotate_left
    · simp only [Act.put, List.setIfInBounds_toArray, List.set_cons_zero, List.set_cons_succ, i64_w, i32_w]
      rfl
    refine pure_ (i := 5) (N := some 13) (v := ?_) (a' := ?_) #[true, true, true, true, false, true, false, false, false, false, false, false, false, false, false] rfl rfl (by kernel_rfl) (fun _ _ _ h => h) (Or.inl ⟨by rfl, ?_⟩) ?_ ?_
    rotate_left
    · intro w'
      go_simp
      with_reducible rfl
    rotate_left
    · simp only [Act.put, List.setIfInBounds_toArray, List.set_cons_zero, List.set_cons_succ, i64_w, i32_w]
      rfl
    refine pure_ (i := 6) (N := some 14) (v := ?_) (a' := ?_) #[true, true, true, true, false, true, true, false, false, false, false, false, false, false, false] rfl rfl (by kernel_rfl) (fun _ _ _ h => h) (Or.inl ⟨by rfl, ?_⟩) ?_ ?_
    rotate_left
    · intro w'
      go_simp
      with_reducible rfl
    rotate_left
    · simp only [Act.put, List.setIfInBounds_toArray, List.set_cons_zero, List.set_cons_succ, i64_w, i32_w]
      rfl
    refine pure_ (i := 7) (N := some 15) (v := ?_) (a' := ?_) #[true, true, true, true, false, true, true, true, false, false, false, false, false, false, false] rfl rfl (by kernel_rfl) (fun _ _ _ h => h) (Or.inl ⟨by rfl, ?_⟩) ?_ ?_
    rotate_left
    · intro w'
      go_simp
      with_reducible rfl
    rotate_left
    · simp only [Act.put, List.setIfInBounds_toArray, List.set_cons_zero, List.set_cons_succ, i64_w, i32_w]
      rfl
    refine take_ (i := 4) (N := some 12) (v := ?_) (a' := ?_) #[true, true, true, true, true, true, true, true, false, false, false, false, false, false, false] rfl rfl (by kernel_rfl) (fun _ _ _ h => h) (Or.inl ⟨by rfl, ?_⟩) hHeld ?_ ?_
    rotate_left
    · rintro w' ⟨s0, s1, s2, s3, s4, s5⟩
      go_simp
      with_reducible rfl
    rotate_left
    · simp only [Act.put, List.setIfInBounds_toArray, List.set_cons_zero, List.set_cons_succ, i64_w, i32_w]
      rfl
    refine take_ (i := 9) (N := some 17) (v := ?_) (a' := ?_) #[true, true, true, true, true, true, true, true, false, true, false, false, false, false, false] rfl rfl (by kernel_rfl) (fun _ _ _ h => h) (Or.inl ⟨by rfl, ?_⟩) hHeld ?_ ?_
    rotate_left
    · rintro w' ⟨s0, s1, s2, s3, s4, s5⟩
      go_simp
      with_reducible rfl
    rotate_left
    · simp only [Act.put, List.setIfInBounds_toArray, List.set_cons_zero, List.set_cons_succ, i64_w, i32_w]
      rfl
    refine one_ (i := 8) (N := some 16) #[true, true, true, true, true, true, true, true, true, true, false, false, false, false, false] rfl rfl (by kernel_rfl) (by decide) (fun K hK => ?_)
    refine goes_ Tryz.func9 (by kernel_rfl) rfl #[.agg #[.int .u64 P, .int .i64 m, .int .i64 1, .bool neg, .slice A X.length c, .int .i64 x], .int .u8 112, .int .i64 (n - 5)] (by rfl) rfl rfl (by simp only [List.map_toArray, List.map_cons, List.map_nil]; rfl) ?_
    with_reducible refine (HTX.out w3 HV3.out).mono ?_
    rintro e w4 ⟨rfl, hb4⟩
    refine ⟨_, rfl, ?_⟩
    have HB4 := Aside0.mk (below_step HB3.out hb4)
    have HV4 := Aside0.mk (below_step HV3.out hb4)
    have KX4 := Aside0.mk (hp_below KX3.out hb4)
    obtain ⟨q0, q1, q2, q3, q4, q5, _, _, _, _, _, _⟩ := blk6 KX4.out
    clear hb4
    refine hK.out _ _ ⟨q0, q1, q2, q3, q4, q5⟩ (fun hHeld => ?_)
    clear hK K
    refine norm_ (a' := ?_) ?_ ?_
    rotate_left
    · show Act.put _ (some 16) _ = _
      simp only [Act.put, List.setIfInBounds_toArray, List.set_cons_zero, List.set_cons_succ, i64_w, i32_w]
      rfl
    refine one_ (i := 10) (N := some 18) #[true, true, true, true, true, true, true, true, true, true, true, false, false, false, false] rfl rfl (by kernel_rfl) (by decide) (fun K hK => ?_)
    refine goes_ Tryz.func11 (by kernel_rfl) rfl #[.agg #[.int .u64 P, .int .i64 m, .int .i64 1, .bool neg, .slice A X.length c, .int .i64 x]] (by rfl) rfl rfl (by simp only [List.map_toArray, List.map_cons, List.map_nil]; rfl) ?_
    with_reducible refine (HOR.out w4 HV4.out).mono ?_
    rintro e w5 ⟨A5, m5, c5, rfl, hd5, hb5⟩
    refine ⟨_, rfl, ?_⟩
    have HB5 := Aside0.mk (below_step HB4.out hb5)
    have HD5 := Aside0.mk hd5
    have KX5 := Aside0.mk (hp_below KX4.out hb5)
    obtain ⟨q0, q1, q2, q3, q4, q5, _, _, _, _, _, _⟩ := blk6 KX5.out
    clear hb5 hd5
    refine hK.out _ _ ⟨q0, q1, q2, q3, q4, q5⟩ (fun hHeld => ?_)
    clear hK K
    refine norm_ (a' := ?_) ?_ ?_
    rotate_left
    · show Act.put _ (some 18) _ = _
      simp only [Act.put, List.setIfInBounds_toArray, List.set_cons_zero, List.set_cons_succ, i64_w, i32_w]
      rfl
    refine one_ (i := 11) (N := some 19) #[true, true, true, true, true, true, true, true, true, true, true, true, false, false, false] rfl rfl (by kernel_rfl) (by decide) (fun K hK => ?_)
    refine goes_ Tryz.func10 (by kernel_rfl) rfl #[.agg #[.bool neg, .slice A5 m5 c5, .int .i64 x]] (by rfl) rfl rfl (by simp only [List.map_toArray, List.map_cons, List.map_nil]; rfl) ?_
    with_reducible refine (HWH.out w5 A5 m5 c5 HD5.out).mono ?_
    rintro e w6 ⟨rfl, hb6⟩
    refine ⟨_, rfl, ?_⟩
    have HB6 := Aside0.mk (below_step HB5.out hb6)
    have KX6 := Aside0.mk (hp_below KX5.out hb6)
    obtain ⟨q0, q1, q2, q3, q4, q5, _, _, _, _, _, _⟩ := blk6 KX6.out
    clear hb6
    refine hK.out _ _ ⟨q0, q1, q2, q3, q4, q5⟩ (fun hHeld => ?_)
    clear hK K
    refine norm_ (a' := ?_) ?_ ?_
    rotate_left
    · show Act.put _ (some 19) _ = _
      simp only [Act.put, List.setIfInBounds_toArray, List.set_cons_zero, List.set_cons_succ, i64_w, i32_w]
      rfl
    refine pure_ (i := 12) (N := some 20) (v := ?_) (a' := ?_) #[true, true, true, true, true, true, true, true, true, true, true, true, true, false, false] rfl rfl (by kernel_rfl) (fun _ _ _ h => h) (Or.inl ⟨by rfl, ?_⟩) ?_ ?_
    rotate_left
    · intro w'
      go_simp
      with_reducible rfl
    rotate_left
    · simp only [Act.put, List.setIfInBounds_toArray, List.set_cons_zero, List.set_cons_succ, i64_w, i32_w]
      rfl
    refine pure_ (i := 13) (N := some 21) (v := ?_) (a' := ?_) #[true, true, true, true, true, true, true, true, true, true, true, true, true, true, false] rfl rfl (by kernel_rfl) (fun _ _ _ h => h) (Or.inl ⟨by rfl, ?_⟩) ?_ ?_
    rotate_left
    · intro w'
      go_simp
      with_reducible rfl
    rotate_left
    · simp only [Act.put, List.setIfInBounds_toArray, List.set_cons_zero, List.set_cons_succ, i64_w, i32_w]
      rfl
    refine pure_ (i := 14) (N := some 4) (v := ?_) (a' := ?_) #[true, true, true, true, true, true, true, true, true, true, true, true, true, true, true] rfl rfl (by kernel_rfl) (fun _ _ _ h => h) (Or.inl ⟨by rfl, ?_⟩) ?_ ?_
    rotate_left
    · intro w'
      go_simp
      with_reducible rfl
    rotate_left
    · simp only [Act.put, List.setIfInBounds_toArray, List.set_cons_zero, List.set_cons_succ, i64_w, i32_w]
      rfl
    refine done_ (by kernel_rfl) ?_
    go_wp2_with (fail)
    go_ret
    exact ⟨rfl, HB6.out⟩
  · have HPL1 : Aside0 (Calls Tryz.prog 8 #[.agg #[.int .u64 P, .int .i64 m, .int .i64 f, .bool neg, .slice A X.length c, .int .i64 x]] w2.drew fun e w' => e = .returned (.bool false) ∧ Below w2.drew.heap.size w2.drew w') := ⟨HPL.out.mono (by
      rintro e w' ⟨r, rfl, h, hb⟩
      refine ⟨?_, hb⟩
      cases r with
      | false => rfl
      | true => exact absurd (h.1 rfl) hok)⟩
    clear HPL hok
    go_enter Tryz.func3, Tryz.ntmps3
    go_wp2_with ((fail_if_success go_at_call 8); go_in)
    rw [← hw2]
    clear hw2
    refine start_ (n := 15) (S := fun w' => w'.cell? ⟨w.heap.size, 0, none⟩ = some (.int .u64 P) ∧ w'.cell? ⟨w.heap.size, 1, none⟩ = some (.int .i64 m) ∧ w'.cell? ⟨w.heap.size, 2, none⟩ = some (.int .i64 f) ∧ w'.cell? ⟨w.heap.size, 3, none⟩ = some (.bool neg) ∧ w'.cell? ⟨w.heap.size, 4, none⟩ = some (.slice A X.length c) ∧ w'.cell? ⟨w.heap.size, 5, none⟩ = some (.int .i64 x)) (ds := []) #[false, false, false, false, false, false, false, false, false, false, false, false, false, false, false] (by kernel_rfl) rfl rfl ⟨(by go_simp), (by go_simp), (by go_simp), (by go_simp), (by go_simp), (by go_simp)⟩ (fun hHeld => ?_)
    refine take_ (i := 0) (N := some 8) (v := ?_) (a' := ?_) #[true, false, false, false, false, false, false, false, false, false, false, false, false, false, false] rfl rfl (by kernel_rfl) (fun _ _ _ h => h) (Or.inl ⟨by rfl, ?_⟩) hHeld ?_ ?_
    rotate_left
    · rintro w' ⟨s0, s1, s2, s3, s4, s5⟩
      go_simp
      with_reducible rfl
    rotate_left
    · simp only [Act.put, List.setIfInBounds_toArray, List.set_cons_zero, List.set_cons_succ, i64_w, i32_w]
      rfl
    refine one_ (i := 1) (N := some 9) #[true, true, false, false, false, false, false, false, false, false, false, false, false, false, false] rfl rfl (by kernel_rfl) (by decide) (fun K hK => ?_)
    refine goes_ Tryz.func8 (by kernel_rfl) rfl #[.agg #[.int .u64 P, .int .i64 m, .int .i64 f, .bool neg, .slice A X.length c, .int .i64 x]] (by rfl) rfl rfl (by simp only [List.map_toArray, List.map_cons, List.map_nil]; rfl) ?_
    with_reducible refine (HPL1.out).mono ?_
    rintro e w3 ⟨rfl, hb3⟩
    refine ⟨_, rfl, ?_⟩
    have HB3 := Aside0.mk (below_step HBD.out hb3)
    have KX3 := Aside0.mk (hp_below (show hp w2.drew w.heap.size = _ from KX.out) hb3)
    obtain ⟨q0, q1, q2, q3, q4, q5, _, _, _, _, _, _⟩ := blk6 KX3.out
    clear hb3
    refine hK.out _ _ ⟨q0, q1, q2, q3, q4, q5⟩ (fun hHeld => ?_)
    clear hK K
    refine norm_ (a' := ?_) ?_ ?_
    rotate_left
    · show Act.put _ (some 9) _ = _
      simp only [Act.put, List.setIfInBounds_toArray, List.set_cons_zero, List.set_cons_succ, i64_w, i32_w]
      rfl
    refine pure_ (i := 2) (N := some 10) (v := ?_) (a' := ?_) #[true, true, true, false, false, false, false, false, false, false, false, false, false, false, false] rfl rfl (by kernel_rfl) (fun _ _ _ h => h) (Or.inl ⟨by rfl, ?_⟩) ?_ ?_
    rotate_left
    · intro w'
      go_simp
      with_reducible rfl
    rotate_left
    · simp only [Act.put, List.setIfInBounds_toArray, List.set_cons_zero, List.set_cons_succ, i64_w, i32_w]
      rfl
    refine pure_ (i := 3) (N := some 11) (v := ?_) (a' := ?_) #[true, true, true, true, false, false, false, false, false, false, false, false, false, false, false] rfl rfl (by kernel_rfl) (fun _ _ _ h => h) (Or.inl ⟨by rfl, ?_⟩) ?_ ?_
    rotate_left
    · intro w'
      go_simp
      with_reducible rfl
    rotate_left
    · simp only [Act.put, List.setIfInBounds_toArray, List.set_cons_zero, List.set_cons_succ, i64_w, i32_w]
      rfl
    refine pure_ (i := 4) (N := some 12) (v := undef) (a' := ?_) #[true, true, true, true, true, false, false, false, false, false, false, false, false, false, false] rfl rfl (by kernel_rfl) (fun _ _ _ h => h) (Or.inr ⟨by rfl, rfl⟩) ?_ ?_
    rotate_left
    · simp only [Act.put, List.setIfInBounds_toArray, List.set_cons_zero, List.set_cons_succ, i64_w, i32_w]
      rfl
    refine pure_ (i := 5) (N := some 13) (v := undef) (a' := ?_) #[true, true, true, true, true, true, false, false, false, false, false, false, false, false, false] rfl rfl (by kernel_rfl) (fun _ _ _ h => h) (Or.inr ⟨by rfl, rfl⟩) ?_ ?_
    rotate_left
    · simp only [Act.put, List.setIfInBounds_toArray, List.set_cons_zero, List.set_cons_succ, i64_w, i32_w]
      rfl
    refine pure_ (i := 6) (N := some 14) (v := undef) (a' := ?_) #[true, true, true, true, true, true, true, false, false, false, false, false, false, false, false] rfl rfl (by kernel_rfl) (fun _ _ _ h => h) (Or.inr ⟨by rfl, rfl⟩) ?_ ?_
    rotate_left
    · simp only [Act.put, List.setIfInBounds_toArray, List.set_cons_zero, List.set_cons_succ, i64_w, i32_w]
      rfl
    refine pure_ (i := 7) (N := some 15) (v := undef) (a' := ?_) #[true, true, true, true, true, true, true, true, false, false, false, false, false, false, false] rfl rfl (by kernel_rfl) (fun _ _ _ h => h) (Or.inr ⟨by rfl, rfl⟩) ?_ ?_
    rotate_left
    · simp only [Act.put, List.setIfInBounds_toArray, List.set_cons_zero, List.set_cons_succ, i64_w, i32_w]
      rfl
    refine pure_ (i := 8) (N := some 16) (v := undef) (a' := ?_) #[true, true, true, true, true, true, true, true, true, false, false, false, false, false, false] rfl rfl (by kernel_rfl) (fun _ _ _ h => h) (Or.inr ⟨by rfl, rfl⟩) ?_ ?_
    rotate_left
    · simp only [Act.put, List.setIfInBounds_toArray, List.set_cons_zero, List.set_cons_succ, i64_w, i32_w]
      rfl
    refine pure_ (i := 9) (N := some 17) (v := undef) (a' := ?_) #[true, true, true, true, true, true, true, true, true, true, false, false, false, false, false] rfl rfl (by kernel_rfl) (fun _ _ _ h => h) (Or.inr ⟨by rfl, rfl⟩) ?_ ?_
    rotate_left
    · simp only [Act.put, List.setIfInBounds_toArray, List.set_cons_zero, List.set_cons_succ, i64_w, i32_w]
      rfl
    refine pure_ (i := 10) (N := some 18) (v := undef) (a' := ?_) #[true, true, true, true, true, true, true, true, true, true, true, false, false, false, false] rfl rfl (by kernel_rfl) (fun _ _ _ h => h) (Or.inr ⟨by rfl, rfl⟩) ?_ ?_
    rotate_left
    · simp only [Act.put, List.setIfInBounds_toArray, List.set_cons_zero, List.set_cons_succ, i64_w, i32_w]
      rfl
    refine pure_ (i := 11) (N := some 19) (v := undef) (a' := ?_) #[true, true, true, true, true, true, true, true, true, true, true, true, false, false, false] rfl rfl (by kernel_rfl) (fun _ _ _ h => h) (Or.inr ⟨by rfl, rfl⟩) ?_ ?_
    rotate_left
    · simp only [Act.put, List.setIfInBounds_toArray, List.set_cons_zero, List.set_cons_succ, i64_w, i32_w]
      rfl
    refine pure_ (i := 12) (N := some 20) (v := undef) (a' := ?_) #[true, true, true, true, true, true, true, true, true, true, true, true, true, false, false] rfl rfl (by kernel_rfl) (fun _ _ _ h => h) (Or.inr ⟨by rfl, rfl⟩) ?_ ?_
    rotate_left
    · simp only [Act.put, List.setIfInBounds_toArray, List.set_cons_zero, List.set_cons_succ, i64_w, i32_w]
      rfl
    refine pure_ (i := 13) (N := some 21) (v := ?_) (a' := ?_) #[true, true, true, true, true, true, true, true, true, true, true, true, true, true, false] rfl rfl (by kernel_rfl) (fun _ _ _ h => h) (Or.inl ⟨by rfl, ?_⟩) ?_ ?_
    rotate_left
    · intro w'
      go_simp
      with_reducible rfl
    rotate_left
    · simp only [Act.put, List.setIfInBounds_toArray, List.set_cons_zero, List.set_cons_succ, i64_w, i32_w]
      rfl
    refine pure_ (i := 14) (N := some 4) (v := ?_) (a' := ?_) #[true, true, true, true, true, true, true, true, true, true, true, true, true, true, true] rfl rfl (by kernel_rfl) (fun _ _ _ h => h) (Or.inl ⟨by rfl, ?_⟩) ?_ ?_
    rotate_left
    · intro w'
      go_simp
      with_reducible rfl
    rotate_left
    · simp only [Act.put, List.setIfInBounds_toArray, List.set_cons_zero, List.set_cons_succ, i64_w, i32_w]
      rfl
    refine done_ (by kernel_rfl) ?_
    go_wp2_with (fail)
    go_ret
    exact ⟨rfl, HB3.out⟩
end Go.Proofs.YtnbnfjpecgbnpaaGreatDoor.fnHexBelow
