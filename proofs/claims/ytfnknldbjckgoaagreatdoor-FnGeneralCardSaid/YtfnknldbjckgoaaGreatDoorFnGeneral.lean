/-
  FnGeneral holds for every input.
-/
import Derived.Test.YtfnknldbjckgoaaGreatDoorGenC
import Derived.Test.YtfnknldbjckgoaaGreatDoorGx2
import Derived.Test.YtfnknldbjckgoaaGreatDoorTextK
import Derived.Test.YtfnknldbjckgoaaGreatDoorGrea
namespace Go.Proofs.YtfnknldbjckgoaaGreatDoor.fnGeneral
open Go.RowKit Go.Proofs.YtfnknldbjckgoaaGreatDoorW.PrintWords Go.Proofs.YtfnknldbjckgoaaGreatDoorW.PrintLast Go.Proofs.YtfnknldbjckgoaaGreatDoorW.PrintMore Go.Proofs.YtfnknldbjckgoaaGreatDoor.Dig Go.Proofs.YtfnknldbjckgoaaGreatDoor.Sp
set_option linter.unusedVariables false
set_option linter.unusedSimpArgs false
theorem pwb {w w' : World} (h : Pw w) (hb : Below w.heap.size w w') : Pw w' := ((Go.Lib.tabBelow_of_tabIs h).on hb).here
theorem tbb {w w' : World} (h : Tb w) (hb : Below w.heap.size w w') : Tb w' := h.kept (Kept.of_below (S := fun _ => False) hb) (fun h => h)
set_option maxHeartbeats 6400000 in
set_option maxRecDepth 100000 in
theorem walk (p m f : Int) (neg : Bool) (v : Value) (X : List Int) (x : Int) (n : Int) (hn : (Lit.int .u8 n).wf = true) (w : World) (hv : InInts .u64 w v X) (hp : (Lit.int .u64 p).wf = true) (hm : (Lit.int .i64 m).wf = true) (hf : (Lit.int .i64 f).wf = true) (hx : (Lit.int .i64 x).wf = true) (hL : Leaf w) (hT : Pw w) (hTb : Tb w) :
    Calls Tryz.prog 5 #[.agg #[.int .u64 p, .int .i64 m, .int .i64 f, .bool neg, v, .int .i64 x], .int .u8 n] w fun e w' => e = .returned (.bool true) ∧ Below w.heap.size w w' := by
  have hws := ws_in hv
  obtain ⟨A, c, rfl, _⟩ := hv
  have hpp := wf_u64 hp
  have hn2 := wf_u8 hn
  clear hn
  have hpu := hpp
  clear hp hm hf hx
  obtain ⟨P, rfl⟩ := Int.eq_ofNat_of_zero_le hpp.1
  have hu := Tryz.underlying25
  have HB00 := Aside0.mk (below_alloc (Below.refl w.heap.size w) (.cells #[.int .u64 P, .int .i64 m, .int .i64 f, .bool neg, .slice A X.length c, .int .i64 x] 25))
  have HB0 := Aside0.mk (below_alloc HB00.out (.cells #[.int .u64 P, .int .i64 m, .int .i64 f, .bool neg, .slice A X.length c, .int .i64 x] 25))
  have KX := Aside0.mk (show hp ((w.alloc (.cells #[.int .u64 P, .int .i64 m, .int .i64 f, .bool neg, .slice A X.length c, .int .i64 x] 25)).alloc (.cells #[.int .u64 P, .int .i64 m, .int .i64 f, .bool neg, .slice A X.length c, .int .i64 x] 25)) w.heap.size = some (.cells #[.int .u64 P, .int .i64 m, .int .i64 f, .bool neg, .slice A X.length c, .int .i64 x] 25 (0, 0)) from (by simp (disch := first | omega | (simp; omega) | (simp; done) | fail) [hp_new, hp_old, hp_here, hp_other, setObj_cells, hp_drew, hp_drewN]))
  have HX := Aside0.mk (hws.below HB0.out)
  have HTB := Aside0.mk (tbb hTb HB0.out)
  have HPW := Aside0.mk (pwb hT HB0.out)
  have HLF := Aside0.mk (hL.below HB0.out)
  clear hws hL hT hTb
  by_cases hbb : 2147483647 < X.length
  · go_enter Tryz.func5, Tryz.ntmps5
    go_wp2_with ((fail_if_success go_at_call 11); go_in)
    go_ret
    exact ⟨rfl, HB0.out⟩
  obtain ⟨w2, hw2⟩ : ∃ w2, w2 = (w.alloc (.cells #[.int .u64 P, .int .i64 m, .int .i64 f, .bool neg, .slice A X.length c, .int .i64 x] 25)).alloc (.cells #[.int .u64 P, .int .i64 m, .int .i64 f, .bool neg, .slice A X.length c, .int .i64 x] 25) := ⟨_, rfl⟩
  rw [← hw2] at HB0 KX HX HTB HPW HLF
  have HPL := Aside0.mk (plainly_m P m f x neg A c X w2 HX.out hpp.1)
  have HBD := Aside0.mk (below_drew1 HB0.out)
  obtain ⟨c0, c1, c2, c3, c4, c5, f0, f1, f2, f3, f4, f5⟩ := blk6 KX.out
  have l1 := hp_lt KX.out
  by_cases hok : f = 1 ∧ RealOk 200 300 P m 1 x X
  · obtain ⟨rfl, hr⟩ := hok
    have HRO := Aside0.mk hr
    obtain ⟨⟨q1, q2, q3, q4⟩, hq⟩ := hr
    have hq2 : (X.length : Int) ≤ ((P : Int) + 63) / 64 ∧ 0 < ev BW X ∧ (∃ b : Nat, Bits (ev BW X) b ∧ (b : Int) ≤ P) ∧ -300 ≤ x ∧ x ≤ 300 := by
      rcases hq with (h | h) | ⟨_, h⟩
      · omega
      · omega
      · exact h
    obtain ⟨hlen, hev, ⟨b, hb, hbP⟩, hx0, hx1⟩ := hq2
    obtain ⟨vN, hvN⟩ : ∃ vN : Nat, ev BW X = (vN : Int) := Int.eq_ofNat_of_zero_le (Int.le_of_lt hev)
    rw [hvN] at hb hev
    have hPw : IntKind.i64.wrap (P : Int) = (P : Int) := IntWalk.i64_in _ (by omega)
    have hbP2 : b ≤ P := by omega
    have hP2 : P ≤ 200 := by omega
    have hvp : 0 < vN := by omega
    have HLX : Aside0 (X.length ≤ 10000) := ⟨by omega⟩
    have HPL1 : Aside0 (Calls Tryz.prog 11 #[.agg #[.int .u64 P, .int .i64 m, .int .i64 1, .bool neg, .slice A X.length c, .int .i64 x]] w2 fun e w' => e = .returned (.bool true) ∧ Below w2.heap.size w2 w') := ⟨HPL.out.mono (by
      rintro e w' ⟨r, rfl, h, hb⟩
      obtain rfl : r = true := h.2 ⟨rfl, HRO.out⟩
      exact ⟨rfl, hb⟩)⟩
    obtain ⟨hi0, hi9, hi8⟩ := initD_bd hvp hb (by omega) ⟨hx0, hx1⟩
    have hs0 := shortV_bd (p := P) hvp hb (by omega) ⟨hx0, hx1⟩
    have hsl := hs0.len
    have hslo := hs0.lo
    have hshi := hs0.hi
    obtain ⟨k1, hk1⟩ := Int.eq_ofNat_of_zero_le (a := n.tmod 40) (Int.tmod_nonneg 40 hn2.1)
    have hk9 : k1 ≤ 39 := by rw [Int.tmod_eq_emod_of_nonneg hn2.1] at hk1; omega
    have hku : IntKind.u8.wrap (k1 : Int) = (k1 : Int) := by rw [IntKind.wrap_u8']; omega
    have hki : IntKind.i64.wrap (k1 : Int) = (k1 : Int) := IntWalk.i64_in _ (by omega)
    obtain ⟨p1, hp1⟩ : ∃ p1 : Nat, p1 = 1 + k1 := ⟨_, rfl⟩
    have hp1i : 1 + (k1 : Int) = (p1 : Int) := by omega
    have hp1w : IntKind.i64.wrap (p1 : Int) = (p1 : Int) := IntWalk.i64_in _ (by omega)
    have hp1m : (p1 : Int) - 1 = (k1 : Int) := by omega
    obtain ⟨S1, hS1⟩ : ∃ S, S = strOfNums (sgn1 neg ++ finT vN b P x 101 (k1 : Int)) := ⟨_, rfl⟩
    obtain ⟨S2, hS2⟩ : ∃ S, S = strOfNums (sgn1 neg ++ finT vN b P x 103 (p1 : Int)) := ⟨_, rfl⟩
    obtain ⟨S3, hS3⟩ : ∃ S, S = strOfNums (sgn1 neg ++ finT vN b P x 103 1) := ⟨_, rfl⟩
    have HT1 : Aside0 (∀ W, Below w2.heap.size w2 W → Calls Tryz.prog 14 #[.agg #[.int .u64 P, .int .i64 m, .int .i64 1, .bool neg, .slice A X.length c, .int .i64 x], .int .u8 101, .int .i64 (k1 : Int)] W fun e w' => e = .returned (.string S1) ∧ Below W.heap.size W w') := ⟨fun W hW => by
      rw [hS1]
      exact textK_c P vN b m 101 (k1 : Int) neg A c x X W (HX.out.below hW) HLX.out hvN hvp hb hbP2 (by omega) (by omega) (by omega) (by omega) (by omega) (pwb HPW.out hW) (HLF.out.below hW) (tbb HTB.out hW)⟩
    have HT2 : Aside0 (∀ W, Below w2.heap.size w2 W → Calls Tryz.prog 14 #[.agg #[.int .u64 P, .int .i64 m, .int .i64 1, .bool neg, .slice A X.length c, .int .i64 x], .int .u8 103, .int .i64 (p1 : Int)] W fun e w' => e = .returned (.string S2) ∧ Below W.heap.size W w') := ⟨fun W hW => by
      rw [hS2]
      exact textK_c P vN b m 103 (p1 : Int) neg A c x X W (HX.out.below hW) HLX.out hvN hvp hb hbP2 (by omega) (by omega) (by omega) (by omega) (by omega) (pwb HPW.out hW) (HLF.out.below hW) (tbb HTB.out hW)⟩
    have HT4 : Aside0 (∀ W, Below w2.heap.size w2 W → Calls Tryz.prog 14 #[.agg #[.int .u64 P, .int .i64 m, .int .i64 1, .bool neg, .slice A X.length c, .int .i64 x], .int .u8 103, .int .i64 1] W fun e w' => e = .returned (.string S3) ∧ Below W.heap.size W w') := ⟨fun W hW => by
      rw [hS3]
      exact textK_c P vN b m 103 1 neg A c x X W (HX.out.below hW) HLX.out hvN hvp hb hbP2 (by omega) (by omega) (by omega) (by omega) (by omega) (pwb HPW.out hW) (HLF.out.below hW) (tbb HTB.out hW)⟩
    have hS4 : S3 = strOfNums (sgn1 neg ++ finT vN b P x 103 0) := by
      rw [hS3]
      unfold finT
      rw [decT_g, decT_g, if_neg (show ¬ (1 : Int) < 0 by omega), if_neg (show ¬ (1 : Int) = 0 by omega), if_neg (show ¬ (0 : Int) < 0 by omega), if_pos rfl]
    have HT3 : Aside0 (∀ W, Below w2.heap.size w2 W → Calls Tryz.prog 14 #[.agg #[.int .u64 P, .int .i64 m, .int .i64 1, .bool neg, .slice A X.length c, .int .i64 x], .int .u8 103, .int .i64 0] W fun e w' => e = .returned (.string S3) ∧ Below W.heap.size W w') := ⟨fun W hW => by
      rw [hS4]
      exact textK_c P vN b m 103 0 neg A c x X W (HX.out.below hW) HLX.out hvN hvp hb hbP2 (by omega) (by omega) (by omega) (by omega) (by omega) (pwb HPW.out hW) (HLF.out.below hW) (tbb HTB.out hW)⟩
    obtain ⟨a, y, hT1, ha1, ⟨ha2, ha3⟩, hy, hdc, hgen⟩ := gen_dec (initD vN x) (shortV vN b P x) p1 hi0.dc (by omega)
    rw [hp1m] at hT1
    have hyb : -1300000 ≤ y ∧ y ≤ 2000 := by
      have h1 := (roundD_bd hi0 hi9 (p1 : Int) (by omega)).lo
      have h2 := (roundD_bd hi0 hi9 (p1 : Int) (by omega)).hi
      omega
    have hz4 : 4 < S1.size := by
      have h1 := (expF_len9 y (by omega)).1
      rw [hS1, show finT vN b P x 101 (k1 : Int) = _ from hT1, strOfNums_sz, List.length_append, List.length_append, List.length_cons, List.length_cons]
      omega
    obtain ⟨zz, hzz⟩ : ∃ zz, S1.size = zz := ⟨_, rfl⟩
    rw [hzz] at hz4
    have hz4i : (4 : Int) < (zz : Int) := by omega
    have hz4d : decide ((4 : Int) < (zz : Int)) = true := decide_eq_true hz4i
    have HGN : Aside0 (∀ W, Calls Tryz.prog 18 #[.string S1, .int .i64 (p1 : Int), .bool false] W fun e w' => e = .returned (.string S2) ∧ Below W.heap.size W w') := ⟨fun W => by
      rw [hS1, hS2, show finT vN b P x 101 (k1 : Int) = _ from hT1, show finT vN b P x 103 (p1 : Int) = _ from hgen.symm]
      exact general_c neg a y (p1 : Int) false W ha1 ha2 (by omega) hyb (by omega) hdc⟩
    clear hT1 ha1 ha2 ha3 hy hyb hdc hgen hS1 hS2 hS3 hS4 hp1 hk9
    clear hi0 hi9 hi8 hs0 hsl hslo hshi
    clear HPL HRO hq hlen hev hb hbP hx0 hx1 hvN hbP2 hP2 hvp
    go_enter Tryz.func5, Tryz.ntmps5
    go_wp2_with ((fail_if_success go_at_call 11); go_in)
    rw [← hw2]
    clear hw2
    refine HPL1.out.mono ?_
    rintro e w3 ⟨rfl, hb3⟩
    have HB3 := Aside0.mk (below_step HB0.out hb3)
    have HV3 := Aside0.mk hb3
    have KX3 := Aside0.mk (hp_below KX.out hb3)
    clear hb3 c0 c1 c2 c3 c4 c5 f0 f1 f2 f3 f4 f5 l1
    obtain ⟨c0, c1, c2, c3, c4, c5, f0, f1, f2, f3, f4, f5⟩ := blk6 KX3.out
    have l1 := hp_lt KX3.out
    go_wp2_with (first | (go_at_call 14; refine (HT1.out w3 HV3.out).mono ?_; rintro e w4 ⟨rfl, hb4⟩; have HB4 := Aside0.mk (below_step HB3.out hb4); have HV4 := Aside0.mk (below_step HV3.out hb4); have KX4 := Aside0.mk (hp_below KX3.out hb4); clear hb4; clear c0 c1 c2 c3 c4 c5 f0 f1 f2 f3 f4 f5 l1; obtain ⟨c0, c1, c2, c3, c4, c5, f0, f1, f2, f3, f4, f5⟩ := blk6 KX4.out; have l1 := hp_lt KX4.out) | fail)
    refine start_ (n := 20) (S := fun w' => w'.cell? ⟨w.heap.size, 0, none⟩ = some (.int .u64 P) ∧ w'.cell? ⟨w.heap.size, 1, none⟩ = some (.int .i64 m) ∧ w'.cell? ⟨w.heap.size, 2, none⟩ = some (.int .i64 1) ∧ w'.cell? ⟨w.heap.size, 3, none⟩ = some (.bool neg) ∧ w'.cell? ⟨w.heap.size, 4, none⟩ = some (.slice A X.length c) ∧ w'.cell? ⟨w.heap.size, 5, none⟩ = some (.int .i64 x)) (ds := []) #[false, false, false, false, false, false, false, false, false, false, false, false, false, false, false, false, false, false, false, false] (by kernel_rfl) rfl rfl ⟨(by go_simp), (by go_simp), (by go_simp), (by go_simp), (by go_simp), (by go_simp)⟩ (fun hHeld => ?_)
    refine pure_ (i := 0) (N := some 21) (v := ?_) (a' := ?_) #[true, false, false, false, false, false, false, false, false, false, false, false, false, false, false, false, false, false, false, false] rfl rfl (by kernel_rfl) (fun _ _ _ h => h) (Or.inl ⟨by rfl, ?_⟩) ?_ ?_
    rotate_left
    · intro w'
      go_simp
      with_reducible rfl
    rotate_left
    · simp only [Act.put, List.setIfInBounds_toArray, List.set_cons_zero, List.set_cons_succ, i64_w, i32_w]
      rfl
    refine pure_ (i := 1) (N := some 22) (v := ?_) (a' := ?_) #[true, true, false, false, false, false, false, false, false, false, false, false, false, false, false, false, false, false, false, false] rfl rfl (by kernel_rfl) (fun _ _ _ h => h) (Or.inl ⟨by rfl, ?_⟩) ?_ ?_
    rotate_left
    · intro w'
      go_simp
      with_reducible rfl
    rotate_left
    · simp only [Act.put, List.setIfInBounds_toArray, List.set_cons_zero, List.set_cons_succ, i64_w, i32_w]
      rfl
    refine pure_ (i := 2) (N := some 23) (v := ?_) (a' := ?_) #[true, true, true, false, false, false, false, false, false, false, false, false, false, false, false, false, false, false, false, false] rfl rfl (by kernel_rfl) (fun _ _ _ h => h) (Or.inl ⟨by rfl, ?_⟩) ?_ ?_
    rotate_left
    · intro w'
      go_simp
      with_reducible rfl
    rotate_left
    · simp only [Act.put, List.setIfInBounds_toArray, List.set_cons_zero, List.set_cons_succ, i64_w, i32_w]
      rfl
    refine pure_ (i := 3) (N := some 24) (v := ?_) (a' := ?_) #[true, true, true, true, false, false, false, false, false, false, false, false, false, false, false, false, false, false, false, false] rfl rfl (by kernel_rfl) (fun _ _ _ h => h) (Or.inl ⟨by rfl, ?_⟩) ?_ ?_
    rotate_left
    · intro w'
      go_simp
      with_reducible rfl
    rotate_left
    · simp only [Act.put, List.setIfInBounds_toArray, List.set_cons_zero, List.set_cons_succ, i64_w, i32_w]
      rfl
    refine pure_ (i := 5) (N := some 26) (v := ?_) (a' := ?_) #[true, true, true, true, false, true, false, false, false, false, false, false, false, false, false, false, false, false, false, false] rfl rfl (by kernel_rfl) (fun _ _ _ h => h) (Or.inl ⟨by rfl, ?_⟩) ?_ ?_
    rotate_left
    · intro w'
      go_simp
      with_reducible rfl
    rotate_left
    · simp only [Act.put, List.setIfInBounds_toArray, List.set_cons_zero, List.set_cons_succ, i64_w, i32_w]
      rfl
    refine pure_ (i := 7) (N := some 28) (v := ?_) (a' := ?_) #[true, true, true, true, false, true, false, true, false, false, false, false, false, false, false, false, false, false, false, false] rfl rfl (by kernel_rfl) (fun _ _ _ h => h) (Or.inl ⟨by rfl, ?_⟩) ?_ ?_
    rotate_left
    · intro w'
      go_simp
      with_reducible rfl
    rotate_left
    · simp only [Act.put, List.setIfInBounds_toArray, List.set_cons_zero, List.set_cons_succ, i64_w, i32_w]
      rfl
    refine pure_ (i := 8) (N := some 29) (v := ?_) (a' := ?_) #[true, true, true, true, false, true, false, true, true, false, false, false, false, false, false, false, false, false, false, false] rfl rfl (by kernel_rfl) (fun _ _ _ h => h) (Or.inl ⟨by rfl, ?_⟩) ?_ ?_
    rotate_left
    · intro w'
      go_simp
      with_reducible rfl
    rotate_left
    · simp only [Act.put, List.setIfInBounds_toArray, List.set_cons_zero, List.set_cons_succ, i64_w, i32_w]
      rfl
    refine take_ (i := 4) (N := some 25) (v := ?_) (a' := ?_) #[true, true, true, true, true, true, false, true, true, false, false, false, false, false, false, false, false, false, false, false] rfl rfl (by kernel_rfl) (fun _ _ _ h => h) (Or.inl ⟨by rfl, ?_⟩) hHeld ?_ ?_
    rotate_left
    · rintro w' ⟨s0, s1, s2, s3, s4, s5⟩
      go_simp
      with_reducible rfl
    rotate_left
    · simp only [Act.put, List.setIfInBounds_toArray, List.set_cons_zero, List.set_cons_succ, i64_w, i32_w]
      rfl
    refine one_ (i := 6) (N := some 27) #[true, true, true, true, true, true, true, true, true, false, false, false, false, false, false, false, false, false, false, false] rfl rfl (by kernel_rfl) (by decide) (fun K hK => ?_)
    refine goes_ Tryz.func14 (by kernel_rfl) rfl #[.agg #[.int .u64 P, .int .i64 m, .int .i64 1, .bool neg, .slice A X.length c, .int .i64 x], .int .u8 103, .int .i64 (p1 : Int)] (by rfl) rfl rfl (by simp only [List.map_toArray, List.map_cons, List.map_nil]; rfl) ?_
    with_reducible refine (HT2.out _ (below_drew1 HV4.out)).mono ?_
    rintro e w5 ⟨rfl, hb5⟩
    refine ⟨_, rfl, ?_⟩
    have HB5 := Aside0.mk (below_step (below_drew1 HB4.out) hb5)
    have HV5 := Aside0.mk (below_step (below_drew1 HV4.out) hb5)
    have KX5 := Aside0.mk (hp_below (show hp w4.drew w.heap.size = _ from KX4.out) hb5)
    obtain ⟨q0, q1, q2, q3, q4, q5, _, _, _, _, _, _⟩ := blk6 KX5.out
    clear hb5
    refine hK.out _ _ ⟨q0, q1, q2, q3, q4, q5⟩ (fun hHeld => ?_)
    clear hK K
    refine norm_ (a' := ?_) ?_ ?_
    rotate_left
    · show Act.put _ (some 27) _ = _
      simp only [Act.put, List.setIfInBounds_toArray, List.set_cons_zero, List.set_cons_succ, i64_w, i32_w]
      rfl
    refine one_ (i := 9) (N := some 30) #[true, true, true, true, true, true, true, true, true, true, false, false, false, false, false, false, false, false, false, false] rfl rfl (by kernel_rfl) (by decide) (fun K hK => ?_)
    refine goes_ Tryz.func18 (by kernel_rfl) rfl #[.string S1, .int .i64 (p1 : Int), .bool false] (by rfl) rfl rfl (by simp only [List.map_toArray, List.map_cons, List.map_nil]; rfl) ?_
    with_reducible refine (HGN.out _).mono ?_
    rintro e w6 ⟨rfl, hb6⟩
    refine ⟨_, rfl, ?_⟩
    have HB6 := Aside0.mk (below_step HB5.out hb6)
    have HV6 := Aside0.mk (below_step HV5.out hb6)
    have KX6 := Aside0.mk (hp_below KX5.out hb6)
    obtain ⟨q0, q1, q2, q3, q4, q5, _, _, _, _, _, _⟩ := blk6 KX6.out
    clear hb6
    refine hK.out _ _ ⟨q0, q1, q2, q3, q4, q5⟩ (fun hHeld => ?_)
    clear hK K
    refine norm_ (a' := ?_) ?_ ?_
    rotate_left
    · show Act.put _ (some 30) _ = _
      simp only [Act.put, List.setIfInBounds_toArray, List.set_cons_zero, List.set_cons_succ, i64_w, i32_w]
      rfl
    refine pure_ (i := 10) (N := some 31) (v := ?_) (a' := ?_) #[true, true, true, true, true, true, true, true, true, true, true, false, false, false, false, false, false, false, false, false] rfl rfl (by kernel_rfl) (fun _ _ _ h => h) (Or.inl ⟨by rfl, ?_⟩) ?_ ?_
    rotate_left
    · intro w'
      go_simp
      with_reducible rfl
    rotate_left
    · simp only [Act.put, List.setIfInBounds_toArray, List.set_cons_zero, List.set_cons_succ, i64_w, i32_w]
      rfl
    refine pure_ (i := 11) (N := some 32) (v := ?_) (a' := ?_) #[true, true, true, true, true, true, true, true, true, true, true, true, false, false, false, false, false, false, false, false] rfl rfl (by kernel_rfl) (fun _ _ _ h => h) (Or.inl ⟨by rfl, ?_⟩) ?_ ?_
    rotate_left
    · intro w'
      go_simp
      with_reducible rfl
    rotate_left
    · simp only [Act.put, List.setIfInBounds_toArray, List.set_cons_zero, List.set_cons_succ, i64_w, i32_w]
      rfl
    refine pure_ (i := 12) (N := some 33) (v := ?_) (a' := ?_) #[true, true, true, true, true, true, true, true, true, true, true, true, true, false, false, false, false, false, false, false] rfl rfl (by kernel_rfl) (fun _ _ _ h => h) (Or.inl ⟨by rfl, ?_⟩) ?_ ?_
    rotate_left
    · intro w'
      go_simp
      with_reducible rfl
    rotate_left
    · simp only [Act.put, List.setIfInBounds_toArray, List.set_cons_zero, List.set_cons_succ, i64_w, i32_w]
      rfl
    refine take_ (i := 13) (N := some 34) (v := ?_) (a' := ?_) #[true, true, true, true, true, true, true, true, true, true, true, true, true, true, false, false, false, false, false, false] rfl rfl (by kernel_rfl) (fun _ _ _ h => h) (Or.inl ⟨by rfl, ?_⟩) hHeld ?_ ?_
    rotate_left
    · rintro w' ⟨s0, s1, s2, s3, s4, s5⟩
      go_simp
      with_reducible rfl
    rotate_left
    · simp only [Act.put, List.setIfInBounds_toArray, List.set_cons_zero, List.set_cons_succ, i64_w, i32_w]
      rfl
    refine take_ (i := 15) (N := some 36) (v := ?_) (a' := ?_) #[true, true, true, true, true, true, true, true, true, true, true, true, true, true, false, true, false, false, false, false] rfl rfl (by kernel_rfl) (fun _ _ _ h => h) (Or.inl ⟨by rfl, ?_⟩) hHeld ?_ ?_
    rotate_left
    · rintro w' ⟨s0, s1, s2, s3, s4, s5⟩
      go_simp
      with_reducible rfl
    rotate_left
    · simp only [Act.put, List.setIfInBounds_toArray, List.set_cons_zero, List.set_cons_succ, i64_w, i32_w]
      rfl
    refine one_ (i := 14) (N := some 35) #[true, true, true, true, true, true, true, true, true, true, true, true, true, true, true, true, false, false, false, false] rfl rfl (by kernel_rfl) (by decide) (fun K hK => ?_)
    refine goes_ Tryz.func14 (by kernel_rfl) rfl #[.agg #[.int .u64 P, .int .i64 m, .int .i64 1, .bool neg, .slice A X.length c, .int .i64 x], .int .u8 103, .int .i64 0] (by rfl) rfl rfl (by simp only [List.map_toArray, List.map_cons, List.map_nil]; rfl) ?_
    with_reducible refine (HT3.out _ HV6.out).mono ?_
    rintro e w7 ⟨rfl, hb7⟩
    refine ⟨_, rfl, ?_⟩
    have HB7 := Aside0.mk (below_step HB6.out hb7)
    have HV7 := Aside0.mk (below_step HV6.out hb7)
    have KX7 := Aside0.mk (hp_below KX6.out hb7)
    obtain ⟨q0, q1, q2, q3, q4, q5, _, _, _, _, _, _⟩ := blk6 KX7.out
    clear hb7
    refine hK.out _ _ ⟨q0, q1, q2, q3, q4, q5⟩ (fun hHeld => ?_)
    clear hK K
    refine norm_ (a' := ?_) ?_ ?_
    rotate_left
    · show Act.put _ (some 35) _ = _
      simp only [Act.put, List.setIfInBounds_toArray, List.set_cons_zero, List.set_cons_succ, i64_w, i32_w]
      rfl
    refine one_ (i := 16) (N := some 37) #[true, true, true, true, true, true, true, true, true, true, true, true, true, true, true, true, true, false, false, false] rfl rfl (by kernel_rfl) (by decide) (fun K hK => ?_)
    refine goes_ Tryz.func14 (by kernel_rfl) rfl #[.agg #[.int .u64 P, .int .i64 m, .int .i64 1, .bool neg, .slice A X.length c, .int .i64 x], .int .u8 103, .int .i64 1] (by rfl) rfl rfl (by simp only [List.map_toArray, List.map_cons, List.map_nil]; rfl) ?_
    with_reducible refine (HT4.out _ HV7.out).mono ?_
    rintro e w8 ⟨rfl, hb8⟩
    refine ⟨_, rfl, ?_⟩
    have HB8 := Aside0.mk (below_step HB7.out hb8)
    have HV8 := Aside0.mk (below_step HV7.out hb8)
    have KX8 := Aside0.mk (hp_below KX7.out hb8)
    obtain ⟨q0, q1, q2, q3, q4, q5, _, _, _, _, _, _⟩ := blk6 KX8.out
    clear hb8
    refine hK.out _ _ ⟨q0, q1, q2, q3, q4, q5⟩ (fun hHeld => ?_)
    clear hK K
    refine norm_ (a' := ?_) ?_ ?_
    rotate_left
    · show Act.put _ (some 37) _ = _
      simp only [Act.put, List.setIfInBounds_toArray, List.set_cons_zero, List.set_cons_succ, i64_w, i32_w]
      rfl
    refine pure_ (i := 17) (N := some 38) (v := ?_) (a' := ?_) #[true, true, true, true, true, true, true, true, true, true, true, true, true, true, true, true, true, true, false, false] rfl rfl (by kernel_rfl) (fun _ _ _ h => h) (Or.inl ⟨by rfl, ?_⟩) ?_ ?_
    rotate_left
    · intro w'
      go_simp
      with_reducible rfl
    rotate_left
    · simp only [Act.put, List.setIfInBounds_toArray, List.set_cons_zero, List.set_cons_succ, i64_w, i32_w]
      rfl
    refine pure_ (i := 18) (N := some 39) (v := ?_) (a' := ?_) #[true, true, true, true, true, true, true, true, true, true, true, true, true, true, true, true, true, true, true, false] rfl rfl (by kernel_rfl) (fun _ _ _ h => h) (Or.inl ⟨by rfl, ?_⟩) ?_ ?_
    rotate_left
    · intro w'
      go_simp
      with_reducible rfl
    rotate_left
    · simp only [Act.put, List.setIfInBounds_toArray, List.set_cons_zero, List.set_cons_succ, i64_w, i32_w]
      rfl
    refine pure_ (i := 19) (N := some 4) (v := ?_) (a' := ?_) #[true, true, true, true, true, true, true, true, true, true, true, true, true, true, true, true, true, true, true, true] rfl rfl (by kernel_rfl) (fun _ _ _ h => h) (Or.inl ⟨by rfl, ?_⟩) ?_ ?_
    rotate_left
    · intro w'
      go_simp
      with_reducible rfl
    rotate_left
    · simp only [Act.put, List.setIfInBounds_toArray, List.set_cons_zero, List.set_cons_succ, i64_w, i32_w]
      rfl
    refine done_ (by kernel_rfl) ?_
    go_wp2_with (fail)
    go_ret
    exact ⟨rfl, HB8.out⟩
  · have HPL1 : Aside0 (Calls Tryz.prog 11 #[.agg #[.int .u64 P, .int .i64 m, .int .i64 f, .bool neg, .slice A X.length c, .int .i64 x]] w2 fun e w' => e = .returned (.bool false) ∧ Below w2.heap.size w2 w') := ⟨HPL.out.mono (by
      rintro e w' ⟨r, rfl, h, hb⟩
      refine ⟨?_, hb⟩
      cases r with
      | false => rfl
      | true => exact absurd (h.1 rfl) hok)⟩
    clear HPL hok
    go_enter Tryz.func5, Tryz.ntmps5
    go_wp2_with ((fail_if_success go_at_call 11); go_in)
    rw [← hw2]
    clear hw2
    refine HPL1.out.mono ?_
    rintro e w3 ⟨rfl, hb3⟩
    have HB3 := Aside0.mk (below_step HB0.out hb3)
    clear hb3
    go_wp2_with (fail)
    go_ret
    exact ⟨rfl, HB3.out⟩
end Go.Proofs.YtfnknldbjckgoaaGreatDoor.fnGeneral
