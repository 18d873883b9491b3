/-
  FnString holds for every input.
-/
import Derived.Test.YtnbnfjpecgbnpaaGreatDoorGapf
import Derived.Test.YtnbnfjpecgbnpaaGreatDoorGrea
namespace Go.Proofs.YtnbnfjpecgbnpaaGreatDoor.fnString
open Go.RowKit Go.Proofs.YtnbnfjpecgbnpaaGreatDoorW.PrintWords Go.Proofs.YtnbnfjpecgbnpaaGreatDoorW.PrintLast Go.Proofs.YtnbnfjpecgbnpaaGreatDoorW.PrintMore Go.Proofs.YtnbnfjpecgbnpaaGreatDoor.Dig Go.Proofs.YtnbnfjpecgbnpaaGreatDoor.Sp
set_option linter.unusedVariables false
set_option linter.unusedSimpArgs false
/-- A Real that is valid, with what it holds. -/
theorem rok_of {P : Nat} {m f x : Int} {A : Option Addr} {c : Nat} {X : List Int} {w : World} (h : RealOk 200 300 (P : Int) m f x X) (hws : Ws w (.slice A X.length c) X) : ∃ (vN b n : Nat), ROk w P m f A X.length c x (vN : Int) b n X ∧ (f = 1 → b ≤ P) ∧ P ≤ 200 ∧ (f = 1 → -300 ≤ x ∧ x ≤ 300) := by
  obtain ⟨⟨h1, h2, h3, h4⟩, hr⟩ := h
  rcases hr with hf | ⟨rfl, hlen, hev, ⟨b, hb, hbp⟩, hx0, hx1⟩
  · exact ⟨0, 0, 0, ⟨⟨by omega, by omega⟩, ⟨h3, by omega⟩, .inl hf⟩, fun h => by omega, by omega, fun h => by omega⟩
  · obtain ⟨vN, hvN⟩ := Int.eq_ofNat_of_zero_le (Int.le_of_lt hev)
    rw [hvN] at hb hev
    obtain ⟨mo, n, e⟩ := odd_part vN (by omega)
    refine ⟨vN, b, n, ⟨⟨by omega, by omega⟩, ⟨h3, by omega⟩, .inr ⟨rfl, hws, by omega, hvN, hev, hb, ?_, by omega, by omega, by omega⟩⟩, fun _ => by omega, by omega, fun _ => ⟨hx0, hx1⟩⟩
    exact ⟨(mo : Int), by rw [e, Int.natCast_mul, Int.natCast_pow, Int.mul_comm]; simp⟩
set_option maxHeartbeats 6400000 in
set_option maxRecDepth 100000 in
theorem walk (p m f : Int) (neg : Bool) (v : Value) (X : List Int) (x : Int) (w : World) (hv : InInts .u64 w v X) (hp : (Lit.int .u64 p).wf = true) (hm : (Lit.int .i64 m).wf = true) (hf : (Lit.int .i64 f).wf = true) (hx : (Lit.int .i64 x).wf = true) (hL : Leaf w) (hT : Pw w) (hTb : Tb w) :
    Calls Tryz.prog 6 #[.agg #[.int .u64 p, .int .i64 m, .int .i64 f, .bool neg, v, .int .i64 x]] w fun e w' => e = .returned (.bool true) ∧ Below w.heap.size w w' := by
  have hws := ws_in hv
  obtain ⟨A, c, rfl, _⟩ := hv
  have hpp := wf_u64 hp
  clear hp hm hf hx
  obtain ⟨P, rfl⟩ := Int.eq_ofNat_of_zero_le hpp.1
  have hu := Tryz.underlying25
  have HB00 := Aside0.mk (below_alloc (Below.refl w.heap.size w) (.cells #[.int .u64 P, .int .i64 m, .int .i64 f, .bool neg, .slice A X.length c, .int .i64 x] 25))
  have HB0 := Aside0.mk (below_alloc HB00.out (.cells #[.int .u64 P, .int .i64 m, .int .i64 f, .bool neg, .slice A X.length c, .int .i64 x] 25))
  have KX := Aside0.mk (show hp ((w.alloc (.cells #[.int .u64 P, .int .i64 m, .int .i64 f, .bool neg, .slice A X.length c, .int .i64 x] 25)).alloc (.cells #[.int .u64 P, .int .i64 m, .int .i64 f, .bool neg, .slice A X.length c, .int .i64 x] 25)) w.heap.size = some (.cells #[.int .u64 P, .int .i64 m, .int .i64 f, .bool neg, .slice A X.length c, .int .i64 x] 25 (0, 0)) from (by simp (disch := first | omega | (simp; omega) | (simp; done) | fail) [hp_new, hp_old, hp_here, hp_other, setObj_cells, hp_drew, hp_drewN]))
  have HX := Aside0.mk (hws.below HB0.out)
  have HLF := Aside0.mk (hL.below HB0.out)
  have HPW := Aside0.mk (pw_below hT HB0.out)
  have HTB := Aside0.mk (tb_below hTb HB0.out)
  clear hws hL hT hTb
  by_cases hbb : 2147483647 < X.length
  · go_enter Tryz.func6, Tryz.ntmps6
    go_wp2_with ((fail_if_success go_at_call 16); go_in)
    go_ret
    exact ⟨rfl, HB0.out⟩
  obtain ⟨w2, hw2⟩ : ∃ w2, w2 = (w.alloc (.cells #[.int .u64 P, .int .i64 m, .int .i64 f, .bool neg, .slice A X.length c, .int .i64 x] 25)).alloc (.cells #[.int .u64 P, .int .i64 m, .int .i64 f, .bool neg, .slice A X.length c, .int .i64 x] 25) := ⟨_, rfl⟩
  rw [← hw2] at HB0 KX HX HLF HPW HTB
  have HPL := Aside0.mk (real_m 200 300 P m f x neg A c X w2.drew (HX.out.below (below_drew (Below.refl _ _))) (by omega) (by omega) hpp.1)
  have HBD := Aside0.mk (below_drew1 HB0.out)
  obtain ⟨c0, c1, c2, c3, c4, c5, f0, f1, f2, f3, f4, f5⟩ := blk6 KX.out
  have l1 := hp_lt KX.out
  by_cases hok : RealOk 200 300 P m f x X
  · have HRO := Aside0.mk hok
    obtain ⟨vN, b, n, hr, hbP, hP2, hx3⟩ := rok_of hok HX.out
    have HRK := Aside0.mk hr
    have HPL1 : Aside0 (Calls Tryz.prog 16 #[.agg #[.int .u64 P, .int .i64 m, .int .i64 f, .bool neg, .slice A X.length c, .int .i64 x], .int .u64 200, .int .i64 300] w2.drew fun e w' => e = .returned (.bool true) ∧ Below w2.drew.heap.size w2.drew w') := ⟨HPL.out.mono (by
      rintro e w' ⟨r, rfl, h, hb⟩
      obtain rfl : r = true := h.2 HRO.out
      exact ⟨rfl, hb⟩)⟩
    obtain ⟨TT, hTT⟩ : ∃ TT, TT = strOfNums (gT f neg vN b P x 10) := ⟨_, rfl⟩
    have HAP : Aside0 (∀ W, Below w2.heap.size w2 W → ∀ W0 W1 g (vv : Value), Below W.heap.size W W0 → Fl (W.alloc (.cells #[.int .u64 P, .int .i64 m, .int .i64 f, .bool neg, .slice A X.length c, .int .i64 x] 25)) W0 g P m f neg (vN : Int) x b n → Bu W0 W1 vv [] → Calls Tryz.prog 34 #[.pointer (some ⟨g, 0, none⟩), vv, .int .u8 103, .int .i64 10] W1 (BuPost W0 (gT f neg vN b P x 10))) := ⟨fun W hW W0 W1 g vv hb0 ho hbu => by
      have := appR_c g P vN b n m f x 10 neg _ W0 W1 vv [] ho hbP hP2 hx3 hbu (by simp) (pw_below (pw_below HPW.out hW) hb0) ((HLF.out.below hW).below hb0) (tb_below (tb_below HTB.out hW) hb0) (by omega)
      rwa [List.nil_append] at this⟩
    have HTX : Aside0 (∀ W, Below w2.heap.size w2 W → Calls Tryz.prog 9 #[.agg #[.int .u64 P, .int .i64 m, .int .i64 f, .bool neg, .slice A X.length c, .int .i64 x], .int .u8 103, .int .i64 10] W fun e w' => e = .returned (.string TT) ∧ Below W.heap.size W w') := ⟨fun W hW => by
      rw [hTT]
      exact textR_c P b n m f 103 10 neg A X.length c x (vN : Int) X _ W (HRK.out.below hW) (by omega) (HAP.out W hW)⟩
    have HSX : Aside0 (∀ W, Below w2.heap.size w2 W → Calls Tryz.prog 17 #[.agg #[.int .u64 P, .int .i64 m, .int .i64 f, .bool neg, .slice A X.length c, .int .i64 x]] W fun e w' => e = .returned (.string TT) ∧ Below W.heap.size W w') := ⟨fun W hW => by
      rw [hTT]
      exact stringR_c P b n m f neg A X.length c x (vN : Int) X _ W (HRK.out.below hW) (HAP.out W hW)⟩
    have HAV : Aside0 (∀ W, Below w2.heap.size w2 W → Calls Tryz.prog 18 #[] W fun e w' => e = .returned (.bool true) ∧ Below W.heap.size W w') := ⟨fun W hW => alive_c W (pw_below HPW.out hW) (HLF.out.below hW) (tb_below HTB.out hW)⟩
    clear HPL HRO hok hr hbP hP2 hx3 hTT HAP HRK HLF HPW HTB
    go_enter Tryz.func6, Tryz.ntmps6
    go_wp2_with ((fail_if_success go_at_call 16); go_in)
    rw [← hw2]
    clear hw2
    refine start_ (n := 14) (S := fun w' => w'.cell? ⟨w.heap.size, 0, none⟩ = some (.int .u64 P) ∧ w'.cell? ⟨w.heap.size, 1, none⟩ = some (.int .i64 m) ∧ w'.cell? ⟨w.heap.size, 2, none⟩ = some (.int .i64 f) ∧ w'.cell? ⟨w.heap.size, 3, none⟩ = some (.bool neg) ∧ w'.cell? ⟨w.heap.size, 4, none⟩ = some (.slice A X.length c) ∧ w'.cell? ⟨w.heap.size, 5, none⟩ = some (.int .i64 x)) (ds := []) #[false, false, false, false, false, false, false, false, false, false, false, false, false, false] (by kernel_rfl) rfl rfl ⟨(by go_simp), (by go_simp), (by go_simp), (by go_simp), (by go_simp), (by go_simp)⟩ (fun hHeld => ?_)
    refine take_ (i := 0) (N := some 6) (v := ?_) (a' := ?_) #[true, false, false, false, false, false, false, false, false, false, false, false, false, false] rfl rfl (by kernel_rfl) (fun _ _ _ h => h) (Or.inl ⟨by rfl, ?_⟩) hHeld ?_ ?_
    rotate_left
    · rintro w' ⟨s0, s1, s2, s3, s4, s5⟩
      go_simp
      with_reducible rfl
    rotate_left
    · simp only [Act.put, List.setIfInBounds_toArray, List.set_cons_zero, List.set_cons_succ, i64_w, i32_w]
      rfl
    refine one_ (i := 1) (N := some 7) #[true, true, false, false, false, false, false, false, false, false, false, false, false, false] rfl rfl (by kernel_rfl) (by decide) (fun K hK => ?_)
    refine goes_ Tryz.func16 (by kernel_rfl) rfl #[.agg #[.int .u64 P, .int .i64 m, .int .i64 f, .bool neg, .slice A X.length c, .int .i64 x], .int .u64 200, .int .i64 300] (by rfl) rfl rfl (by simp only [List.map_toArray, List.map_cons, List.map_nil]; rfl) ?_
    with_reducible refine (HPL1.out).mono ?_
    rintro e w3 ⟨rfl, hb3⟩
    refine ⟨_, rfl, ?_⟩
    have HB3 := Aside0.mk (below_step HBD.out hb3)
    have HV3 := Aside0.mk (below_step (below_drew (Below.refl w2.heap.size w2)) hb3)
    have KX3 := Aside0.mk (hp_below (show hp w2.drew w.heap.size = _ from KX.out) hb3)
    obtain ⟨q0, q1, q2, q3, q4, q5, _, _, _, _, _, _⟩ := blk6 KX3.out
    clear hb3
    refine hK.out _ _ ⟨q0, q1, q2, q3, q4, q5⟩ (fun hHeld => ?_)
    clear hK K
    refine norm_ (a' := ?_) ?_ ?_
    rotate_left
    · show Act.put _ (some 7) _ = _
      simp only [Act.put, List.setIfInBounds_toArray, List.set_cons_zero, List.set_cons_succ, i64_w, i32_w]
      rfl
    refine pure_ (i := 2) (N := some 8) (v := ?_) (a' := ?_) #[true, true, true, false, false, false, false, false, false, false, false, false, false, false] rfl rfl (by kernel_rfl) (fun _ _ _ h => h) (Or.inl ⟨by rfl, ?_⟩) ?_ ?_
    rotate_left
    · intro w'
      go_simp
      with_reducible rfl
    rotate_left
    · simp only [Act.put, List.setIfInBounds_toArray, List.set_cons_zero, List.set_cons_succ, i64_w, i32_w]
      rfl
    refine pure_ (i := 3) (N := some 9) (v := ?_) (a' := ?_) #[true, true, true, true, false, false, false, false, false, false, false, false, false, false] rfl rfl (by kernel_rfl) (fun _ _ _ h => h) (Or.inl ⟨by rfl, ?_⟩) ?_ ?_
    rotate_left
    · intro w'
      go_simp
      with_reducible rfl
    rotate_left
    · simp only [Act.put, List.setIfInBounds_toArray, List.set_cons_zero, List.set_cons_succ, i64_w, i32_w]
      rfl
    refine take_ (i := 4) (N := some 10) (v := ?_) (a' := ?_) #[true, true, true, true, true, false, false, false, false, false, false, false, false, false] rfl rfl (by kernel_rfl) (fun _ _ _ h => h) (Or.inl ⟨by rfl, ?_⟩) hHeld ?_ ?_
    rotate_left
    · rintro w' ⟨s0, s1, s2, s3, s4, s5⟩
      go_simp
      with_reducible rfl
    rotate_left
    · simp only [Act.put, List.setIfInBounds_toArray, List.set_cons_zero, List.set_cons_succ, i64_w, i32_w]
      rfl
    refine take_ (i := 6) (N := some 12) (v := ?_) (a' := ?_) #[true, true, true, true, true, false, true, false, false, false, false, false, false, false] rfl rfl (by kernel_rfl) (fun _ _ _ h => h) (Or.inl ⟨by rfl, ?_⟩) hHeld ?_ ?_
    rotate_left
    · rintro w' ⟨s0, s1, s2, s3, s4, s5⟩
      go_simp
      with_reducible rfl
    rotate_left
    · simp only [Act.put, List.setIfInBounds_toArray, List.set_cons_zero, List.set_cons_succ, i64_w, i32_w]
      rfl
    refine one_ (i := 5) (N := some 11) #[true, true, true, true, true, true, true, false, false, false, false, false, false, false] rfl rfl (by kernel_rfl) (by decide) (fun K hK => ?_)
    refine goes_ Tryz.func17 (by kernel_rfl) rfl #[.agg #[.int .u64 P, .int .i64 m, .int .i64 f, .bool neg, .slice A X.length c, .int .i64 x]] (by rfl) rfl rfl (by simp only [List.map_toArray, List.map_cons, List.map_nil]; rfl) ?_
    with_reducible refine (HSX.out w3 HV3.out).mono ?_
    rintro e w4 ⟨rfl, hb4⟩
    refine ⟨_, rfl, ?_⟩
    have HB4 := Aside0.mk (below_step HB3.out hb4)
    have HV4 := Aside0.mk (below_step HV3.out hb4)
    have KX4 := Aside0.mk (hp_below KX3.out hb4)
    obtain ⟨q0, q1, q2, q3, q4, q5, _, _, _, _, _, _⟩ := blk6 KX4.out
    clear hb4
    refine hK.out _ _ ⟨q0, q1, q2, q3, q4, q5⟩ (fun hHeld => ?_)
    clear hK K
    refine norm_ (a' := ?_) ?_ ?_
    rotate_left
    · show Act.put _ (some 11) _ = _
      simp only [Act.put, List.setIfInBounds_toArray, List.set_cons_zero, List.set_cons_succ, i64_w, i32_w]
      rfl
    refine one_ (i := 7) (N := some 13) #[true, true, true, true, true, true, true, true, false, false, false, false, false, false] rfl rfl (by kernel_rfl) (by decide) (fun K hK => ?_)
    refine goes_ Tryz.func9 (by kernel_rfl) rfl #[.agg #[.int .u64 P, .int .i64 m, .int .i64 f, .bool neg, .slice A X.length c, .int .i64 x], .int .u8 103, .int .i64 10] (by rfl) rfl rfl (by simp only [List.map_toArray, List.map_cons, List.map_nil]; rfl) ?_
    with_reducible refine (HTX.out w4 HV4.out).mono ?_
    rintro e w5 ⟨rfl, hb5⟩
    refine ⟨_, rfl, ?_⟩
    have HB5 := Aside0.mk (below_step HB4.out hb5)
    have HV5 := Aside0.mk (below_step HV4.out hb5)
    have KX5 := Aside0.mk (hp_below KX4.out hb5)
    obtain ⟨q0, q1, q2, q3, q4, q5, _, _, _, _, _, _⟩ := blk6 KX5.out
    clear hb5
    refine hK.out _ _ ⟨q0, q1, q2, q3, q4, q5⟩ (fun hHeld => ?_)
    clear hK K
    refine norm_ (a' := ?_) ?_ ?_
    rotate_left
    · show Act.put _ (some 13) _ = _
      simp only [Act.put, List.setIfInBounds_toArray, List.set_cons_zero, List.set_cons_succ, i64_w, i32_w]
      rfl
    refine pure_ (i := 8) (N := some 14) (v := ?_) (a' := ?_) #[true, true, true, true, true, true, true, true, true, false, false, false, false, false] rfl rfl (by kernel_rfl) (fun _ _ _ h => h) (Or.inl ⟨by rfl, ?_⟩) ?_ ?_
    rotate_left
    · intro w'
      go_simp
      with_reducible rfl
    rotate_left
    · simp only [Act.put, List.setIfInBounds_toArray, List.set_cons_zero, List.set_cons_succ, i64_w, i32_w]
      rfl
    refine pure_ (i := 9) (N := some 15) (v := ?_) (a' := ?_) #[true, true, true, true, true, true, true, true, true, true, false, false, false, false] rfl rfl (by kernel_rfl) (fun _ _ _ h => h) (Or.inl ⟨by rfl, ?_⟩) ?_ ?_
    rotate_left
    · intro w'
      go_simp
      with_reducible rfl
    rotate_left
    · simp only [Act.put, List.setIfInBounds_toArray, List.set_cons_zero, List.set_cons_succ, i64_w, i32_w]
      rfl
    refine one_ (i := 10) (N := some 16) #[true, true, true, true, true, true, true, true, true, true, true, false, false, false] rfl rfl (by kernel_rfl) (by decide) (fun K hK => ?_)
    refine goes_ Tryz.func18 (by kernel_rfl) rfl #[] (by rfl) rfl rfl (by simp) ?_
    with_reducible refine (HAV.out w5 HV5.out).mono ?_
    rintro e w6 ⟨rfl, hb6⟩
    refine ⟨_, rfl, ?_⟩
    have HB6 := Aside0.mk (below_step HB5.out hb6)
    have KX6 := Aside0.mk (hp_below KX5.out hb6)
    obtain ⟨q0, q1, q2, q3, q4, q5, _, _, _, _, _, _⟩ := blk6 KX6.out
    clear hb6
    refine hK.out _ _ ⟨q0, q1, q2, q3, q4, q5⟩ (fun hHeld => ?_)
    clear hK K
    refine norm_ (a' := ?_) ?_ ?_
    rotate_left
    · show Act.put _ (some 16) _ = _
      simp only [Act.put, List.setIfInBounds_toArray, List.set_cons_zero, List.set_cons_succ, i64_w, i32_w]
      rfl
    refine pure_ (i := 11) (N := some 17) (v := ?_) (a' := ?_) #[true, true, true, true, true, true, true, true, true, true, true, true, false, false] rfl rfl (by kernel_rfl) (fun _ _ _ h => h) (Or.inl ⟨by rfl, ?_⟩) ?_ ?_
    rotate_left
    · intro w'
      go_simp
      with_reducible rfl
    rotate_left
    · simp only [Act.put, List.setIfInBounds_toArray, List.set_cons_zero, List.set_cons_succ, i64_w, i32_w]
      rfl
    refine pure_ (i := 12) (N := some 18) (v := ?_) (a' := ?_) #[true, true, true, true, true, true, true, true, true, true, true, true, true, false] rfl rfl (by kernel_rfl) (fun _ _ _ h => h) (Or.inl ⟨by rfl, ?_⟩) ?_ ?_
    rotate_left
    · intro w'
      go_simp
      with_reducible rfl
    rotate_left
    · simp only [Act.put, List.setIfInBounds_toArray, List.set_cons_zero, List.set_cons_succ, i64_w, i32_w]
      rfl
    refine pure_ (i := 13) (N := some 2) (v := ?_) (a' := ?_) #[true, true, true, true, true, true, true, true, true, true, true, true, true, true] rfl rfl (by kernel_rfl) (fun _ _ _ h => h) (Or.inl ⟨by rfl, ?_⟩) ?_ ?_
    rotate_left
    · intro w'
      go_simp
      with_reducible rfl
    rotate_left
    · simp only [Act.put, List.setIfInBounds_toArray, List.set_cons_zero, List.set_cons_succ, i64_w, i32_w]
      rfl
    refine done_ (by kernel_rfl) ?_
    go_wp2_with (fail)
    go_ret
    exact ⟨rfl, HB6.out⟩
  · have HPL1 : Aside0 (Calls Tryz.prog 16 #[.agg #[.int .u64 P, .int .i64 m, .int .i64 f, .bool neg, .slice A X.length c, .int .i64 x], .int .u64 200, .int .i64 300] w2.drew fun e w' => e = .returned (.bool false) ∧ Below w2.drew.heap.size w2.drew w') := ⟨HPL.out.mono (by
      rintro e w' ⟨r, rfl, h, hb⟩
      refine ⟨?_, hb⟩
      cases r with
      | false => rfl
      | true => exact absurd (h.1 rfl) hok)⟩
    clear HPL hok
    go_enter Tryz.func6, Tryz.ntmps6
    go_wp2_with ((fail_if_success go_at_call 16); go_in)
    rw [← hw2]
    clear hw2
    refine start_ (n := 14) (S := fun w' => w'.cell? ⟨w.heap.size, 0, none⟩ = some (.int .u64 P) ∧ w'.cell? ⟨w.heap.size, 1, none⟩ = some (.int .i64 m) ∧ w'.cell? ⟨w.heap.size, 2, none⟩ = some (.int .i64 f) ∧ w'.cell? ⟨w.heap.size, 3, none⟩ = some (.bool neg) ∧ w'.cell? ⟨w.heap.size, 4, none⟩ = some (.slice A X.length c) ∧ w'.cell? ⟨w.heap.size, 5, none⟩ = some (.int .i64 x)) (ds := []) #[false, false, false, false, false, false, false, false, false, false, false, false, false, false] (by kernel_rfl) rfl rfl ⟨(by go_simp), (by go_simp), (by go_simp), (by go_simp), (by go_simp), (by go_simp)⟩ (fun hHeld => ?_)
    refine take_ (i := 0) (N := some 6) (v := ?_) (a' := ?_) #[true, false, false, false, false, false, false, false, false, false, false, false, false, false] rfl rfl (by kernel_rfl) (fun _ _ _ h => h) (Or.inl ⟨by rfl, ?_⟩) hHeld ?_ ?_
    rotate_left
    · rintro w' ⟨s0, s1, s2, s3, s4, s5⟩
      go_simp
      with_reducible rfl
    rotate_left
    · simp only [Act.put, List.setIfInBounds_toArray, List.set_cons_zero, List.set_cons_succ, i64_w, i32_w]
      rfl
    refine one_ (i := 1) (N := some 7) #[true, true, false, false, false, false, false, false, false, false, false, false, false, false] rfl rfl (by kernel_rfl) (by decide) (fun K hK => ?_)
    refine goes_ Tryz.func16 (by kernel_rfl) rfl #[.agg #[.int .u64 P, .int .i64 m, .int .i64 f, .bool neg, .slice A X.length c, .int .i64 x], .int .u64 200, .int .i64 300] (by rfl) rfl rfl (by simp only [List.map_toArray, List.map_cons, List.map_nil]; rfl) ?_
    with_reducible refine (HPL1.out).mono ?_
    rintro e w3 ⟨rfl, hb3⟩
    refine ⟨_, rfl, ?_⟩
    have HB3 := Aside0.mk (below_step HBD.out hb3)
    have KX3 := Aside0.mk (hp_below (show hp w2.drew w.heap.size = _ from KX.out) hb3)
    obtain ⟨q0, q1, q2, q3, q4, q5, _, _, _, _, _, _⟩ := blk6 KX3.out
    clear hb3
    refine hK.out _ _ ⟨q0, q1, q2, q3, q4, q5⟩ (fun hHeld => ?_)
    clear hK K
    refine norm_ (a' := ?_) ?_ ?_
    rotate_left
    · show Act.put _ (some 7) _ = _
      simp only [Act.put, List.setIfInBounds_toArray, List.set_cons_zero, List.set_cons_succ, i64_w, i32_w]
      rfl
    refine pure_ (i := 2) (N := some 8) (v := ?_) (a' := ?_) #[true, true, true, false, false, false, false, false, false, false, false, false, false, false] rfl rfl (by kernel_rfl) (fun _ _ _ h => h) (Or.inl ⟨by rfl, ?_⟩) ?_ ?_
    rotate_left
    · intro w'
      go_simp
      with_reducible rfl
    rotate_left
    · simp only [Act.put, List.setIfInBounds_toArray, List.set_cons_zero, List.set_cons_succ, i64_w, i32_w]
      rfl
    refine pure_ (i := 3) (N := some 9) (v := ?_) (a' := ?_) #[true, true, true, true, false, false, false, false, false, false, false, false, false, false] rfl rfl (by kernel_rfl) (fun _ _ _ h => h) (Or.inl ⟨by rfl, ?_⟩) ?_ ?_
    rotate_left
    · intro w'
      go_simp
      with_reducible rfl
    rotate_left
    · simp only [Act.put, List.setIfInBounds_toArray, List.set_cons_zero, List.set_cons_succ, i64_w, i32_w]
      rfl
    refine pure_ (i := 4) (N := some 10) (v := undef) (a' := ?_) #[true, true, true, true, true, false, false, false, false, false, false, false, false, false] rfl rfl (by kernel_rfl) (fun _ _ _ h => h) (Or.inr ⟨by rfl, rfl⟩) ?_ ?_
    rotate_left
    · simp only [Act.put, List.setIfInBounds_toArray, List.set_cons_zero, List.set_cons_succ, i64_w, i32_w]
      rfl
    refine pure_ (i := 5) (N := some 11) (v := undef) (a' := ?_) #[true, true, true, true, true, true, false, false, false, false, false, false, false, false] rfl rfl (by kernel_rfl) (fun _ _ _ h => h) (Or.inr ⟨by rfl, rfl⟩) ?_ ?_
    rotate_left
    · simp only [Act.put, List.setIfInBounds_toArray, List.set_cons_zero, List.set_cons_succ, i64_w, i32_w]
      rfl
    refine pure_ (i := 6) (N := some 12) (v := undef) (a' := ?_) #[true, true, true, true, true, true, true, false, false, false, false, false, false, false] rfl rfl (by kernel_rfl) (fun _ _ _ h => h) (Or.inr ⟨by rfl, rfl⟩) ?_ ?_
    rotate_left
    · simp only [Act.put, List.setIfInBounds_toArray, List.set_cons_zero, List.set_cons_succ, i64_w, i32_w]
      rfl
    refine pure_ (i := 7) (N := some 13) (v := undef) (a' := ?_) #[true, true, true, true, true, true, true, true, false, false, false, false, false, false] rfl rfl (by kernel_rfl) (fun _ _ _ h => h) (Or.inr ⟨by rfl, rfl⟩) ?_ ?_
    rotate_left
    · simp only [Act.put, List.setIfInBounds_toArray, List.set_cons_zero, List.set_cons_succ, i64_w, i32_w]
      rfl
    refine pure_ (i := 8) (N := some 14) (v := undef) (a' := ?_) #[true, true, true, true, true, true, true, true, true, false, false, false, false, false] rfl rfl (by kernel_rfl) (fun _ _ _ h => h) (Or.inr ⟨by rfl, rfl⟩) ?_ ?_
    rotate_left
    · simp only [Act.put, List.setIfInBounds_toArray, List.set_cons_zero, List.set_cons_succ, i64_w, i32_w]
      rfl
    refine pure_ (i := 9) (N := some 15) (v := undef) (a' := ?_) #[true, true, true, true, true, true, true, true, true, true, false, false, false, false] rfl rfl (by kernel_rfl) (fun _ _ _ h => h) (Or.inr ⟨by rfl, rfl⟩) ?_ ?_
    rotate_left
    · simp only [Act.put, List.setIfInBounds_toArray, List.set_cons_zero, List.set_cons_succ, i64_w, i32_w]
      rfl
    refine pure_ (i := 10) (N := some 16) (v := undef) (a' := ?_) #[true, true, true, true, true, true, true, true, true, true, true, false, false, false] rfl rfl (by kernel_rfl) (fun _ _ _ h => h) (Or.inr ⟨by rfl, rfl⟩) ?_ ?_
    rotate_left
    · simp only [Act.put, List.setIfInBounds_toArray, List.set_cons_zero, List.set_cons_succ, i64_w, i32_w]
      rfl
    refine pure_ (i := 11) (N := some 17) (v := undef) (a' := ?_) #[true, true, true, true, true, true, true, true, true, true, true, true, false, false] rfl rfl (by kernel_rfl) (fun _ _ _ h => h) (Or.inr ⟨by rfl, rfl⟩) ?_ ?_
    rotate_left
    · simp only [Act.put, List.setIfInBounds_toArray, List.set_cons_zero, List.set_cons_succ, i64_w, i32_w]
      rfl
    refine pure_ (i := 12) (N := some 18) (v := ?_) (a' := ?_) #[true, true, true, true, true, true, true, true, true, true, true, true, true, false] rfl rfl (by kernel_rfl) (fun _ _ _ h => h) (Or.inl ⟨by rfl, ?_⟩) ?_ ?_
    rotate_left
    · intro w'
      go_simp
      with_reducible rfl
    rotate_left
    · simp only [Act.put, List.setIfInBounds_toArray, List.set_cons_zero, List.set_cons_succ, i64_w, i32_w]
      rfl
    refine pure_ (i := 13) (N := some 2) (v := ?_) (a' := ?_) #[true, true, true, true, true, true, true, true, true, true, true, true, true, true] rfl rfl (by kernel_rfl) (fun _ _ _ h => h) (Or.inl ⟨by rfl, ?_⟩) ?_ ?_
    rotate_left
    · intro w'
      go_simp
      with_reducible rfl
    rotate_left
    · simp only [Act.put, List.setIfInBounds_toArray, List.set_cons_zero, List.set_cons_succ, i64_w, i32_w]
      rfl
    refine done_ (by kernel_rfl) ?_
    go_wp2_with (fail)
    go_ret
    exact ⟨rfl, HB3.out⟩
end Go.Proofs.YtnbnfjpecgbnpaaGreatDoor.fnString
