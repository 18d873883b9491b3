/-
  FnMarshal holds for every input.
-/
import Derived.Test.YtfnknldbjckgoaaGreatDoorMarsh
import Derived.Test.YtfnknldbjckgoaaGreatDoorUpC
import Derived.Test.YtfnknldbjckgoaaGreatDoorGrea
namespace Go.Proofs.YtfnknldbjckgoaaGreatDoor.fnMarshal
open Go.RowKit Go.Proofs.YtfnknldbjckgoaaGreatDoorW.PrintWords Go.Proofs.YtfnknldbjckgoaaGreatDoorW.PrintLast Go.Proofs.YtfnknldbjckgoaaGreatDoorW.PrintMore Go.Proofs.YtfnknldbjckgoaaGreatDoor.Dig Go.Proofs.YtfnknldbjckgoaaGreatDoor.Sp
set_option linter.unusedVariables false
set_option linter.unusedSimpArgs false
theorem pwb {w w' : World} (h : Pw w) (hb : Below w.heap.size w w') : Pw w' := ((Go.Lib.tabBelow_of_tabIs h).on hb).here
theorem tbb {w w' : World} (h : Tb w) (hb : Below w.heap.size w w') : Tb w' := h.kept (Kept.of_below (S := fun _ => False) hb) (fun h => h)
theorem gT_len (f : Int) (neg : Bool) (vN b p : Nat) (x : Int) (h : f = 1 → Chr (finT vN b p x 103 (-1))) (hf : f = 0 ∨ f = 1 ∨ f = 2) : (gT f neg vN b p x (-1)).length ≤ 10000001 := by
  unfold gT
  have hs : (sgn1 neg).length ≤ 1 := by cases neg <;> simp [sgn1]
  rcases hf with rfl | rfl | rfl
  · rw [if_neg (by omega), if_pos rfl, List.length_append]; simp; omega
  · rw [if_neg (by omega), if_neg (by omega), List.length_append]
    have := (h rfl).2
    omega
  · rw [if_pos rfl]; simp [infT]
set_option maxHeartbeats 6400000 in
set_option maxRecDepth 100000 in
theorem walk (p m f : Int) (neg : Bool) (v : Value) (X : List Int) (x : Int) (vb : Value) (Lb : List Int) (w : World) (hv : InInts .u64 w v X) (hp : (Lit.int .u64 p).wf = true) (hm : (Lit.int .i64 m).wf = true) (hf : (Lit.int .i64 f).wf = true) (hx : (Lit.int .i64 x).wf = true) (hvb : InInts .u8 w vb Lb) (hL : Leaf w) (hT : Pw w) (hTb : Tb w) :
    Calls Tryz.prog 8 #[.agg #[.int .u64 p, .int .i64 m, .int .i64 f, .bool neg, v, .int .i64 x], vb] w fun e w' => e = .returned (.bool true) ∧ Below w.heap.size w w' := by
  have hws := ws_in hv
  obtain ⟨A, c, rfl, _⟩ := hv
  obtain ⟨Ab, cb, rfl, hbc, hlb, _⟩ := hvb
  have hpp := wf_u64 hp
  clear hp hm hf hx
  obtain ⟨P, rfl⟩ := Int.eq_ofNat_of_zero_le hpp.1
  have hu := Tryz.underlying25
  have HB00 := Aside0.mk (below_alloc (Below.refl w.heap.size w) (.cells #[.int .u64 P, .int .i64 m, .int .i64 f, .bool neg, .slice A X.length c, .int .i64 x] 25))
  have HB0 := Aside0.mk (below_alloc HB00.out (.cells #[.int .u64 P, .int .i64 m, .int .i64 f, .bool neg, .slice A X.length c, .int .i64 x] 25))
  have KX := Aside0.mk (show hp ((w.alloc (.cells #[.int .u64 P, .int .i64 m, .int .i64 f, .bool neg, .slice A X.length c, .int .i64 x] 25)).alloc (.cells #[.int .u64 P, .int .i64 m, .int .i64 f, .bool neg, .slice A X.length c, .int .i64 x] 25)) w.heap.size = some (.cells #[.int .u64 P, .int .i64 m, .int .i64 f, .bool neg, .slice A X.length c, .int .i64 x] 25 (0, 0)) from (by simp (disch := first | omega | (simp; omega) | (simp; done) | fail) [hp_new, hp_old, hp_here, hp_other, setObj_cells, hp_drew, hp_drewN]))
  have HX := Aside0.mk (hws.below HB0.out)
  have HLF := Aside0.mk (hL.below HB0.out)
  have HPW := Aside0.mk (pwb hT HB0.out)
  have HTB := Aside0.mk (tbb hTb HB0.out)
  have HCB := Aside0.mk (Kd.C_below hlb HB0.out)
  clear hws hL hT hTb hlb
  by_cases hbb : 2147483647 < X.length
  · go_enter Tryz.func8, Tryz.ntmps8
    go_wp2_with ((fail_if_success go_at_call 21); go_in)
    go_ret
    exact ⟨rfl, HB0.out⟩
  by_cases hbl : 2147483647 < Lb.length
  · have hbli : (2147483647 : Int) < (Lb.length : Int) := by omega
    go_enter Tryz.func8, Tryz.ntmps8
    go_wp2_with ((fail_if_success go_at_call 21); go_in)
    go_ret
    exact ⟨rfl, HB0.out⟩
  have hbli : ¬ (2147483647 : Int) < (Lb.length : Int) := by omega
  obtain ⟨w2, hw2⟩ : ∃ w2, w2 = (w.alloc (.cells #[.int .u64 P, .int .i64 m, .int .i64 f, .bool neg, .slice A X.length c, .int .i64 x] 25)).alloc (.cells #[.int .u64 P, .int .i64 m, .int .i64 f, .bool neg, .slice A X.length c, .int .i64 x] 25) := ⟨_, rfl⟩
  rw [← hw2] at HB0 KX HX HLF HPW HTB HCB
  have HPL := Aside0.mk (real_m 200 300 P m f x neg A c X w2 HX.out (by omega) (by omega) hpp.1)
  obtain ⟨c0, c1, c2, c3, c4, c5, f0, f1, f2, f3, f4, f5⟩ := blk6 KX.out
  have l1 := hp_lt KX.out
  by_cases hok : RealOk 200 300 P m f x X
  · have HRO := Aside0.mk hok
    have HPL1 : Aside0 (Calls Tryz.prog 21 #[.agg #[.int .u64 P, .int .i64 m, .int .i64 f, .bool neg, .slice A X.length c, .int .i64 x], .int .u64 200, .int .i64 300] w2 fun e w' => e = .returned (.bool true) ∧ Below w2.heap.size w2 w') := ⟨HPL.out.mono (by
      rintro e w' ⟨r, rfl, h, hb⟩
      obtain rfl : r = true := h.2 HRO.out
      exact ⟨rfl, hb⟩)⟩
    by_cases hl1 : 100 < Lb.length
    · have hl1i : (100 : Int) < (Lb.length : Int) := by omega
      clear HPL HRO hok
      go_enter Tryz.func8, Tryz.ntmps8
      go_wp2_with ((fail_if_success go_at_call 21); go_in)
      rw [← hw2]
      clear hw2
      refine HPL1.out.mono ?_
      rintro e w3 ⟨rfl, hb3⟩
      have HB3 := Aside0.mk (below_step HB0.out hb3)
      clear hb3
      go_wp2_with (fail)
      go_ret
      exact ⟨rfl, HB3.out⟩
    have hl1i : ¬ (100 : Int) < (Lb.length : Int) := by omega
    obtain ⟨vN, b, n, hr, hbP, hP2, hx3⟩ := rok_of2 hok HX.out
    have HRK := Aside0.mk hr
    obtain ⟨TL, hTL⟩ : ∃ TL, TL = gT f neg vN b P x (-1) := ⟨_, rfl⟩
    have hTLn : TL.length ≤ 10000001 := by
      rw [hTL]
      refine gT_len f neg vN b P x (fun hf => ?_) ?_
      · obtain ⟨h1, _⟩ : (0 < vN ∧ Bits (vN : Int) b) ∧ True := by
          rcases hr.2.2 with h | ⟨_, _, _, _, h3, h4, _⟩
          · omega
          · exact ⟨⟨by omega, h4⟩, trivial⟩
        obtain ⟨hi0, hi9, _⟩ := initD_bd h1.1 h1.2 (by have := hbP hf; omega) (hx3 hf)
        exact (finT_chr (p := P) hi0 hi9 (shortV_bd h1.1 h1.2 (by have := hbP hf; omega) (hx3 hf)) (-1) (by omega)).2
      · rcases hr.2.2 with h | ⟨h, _⟩ <;> omega
    have HA : Aside0 (∀ W, Below w2.heap.size w2 W → ∀ W0 W1 g (vv : Value) (l : List Int), Below W.heap.size W W0 → Fl (W.alloc (.cells #[.int .u64 P, .int .i64 m, .int .i64 f, .bool neg, .slice A X.length c, .int .i64 x] 25)) W0 g P m f neg (vN : Int) x b n → Bu W0 W1 vv l → l.length ≤ 100000 → Calls Tryz.prog 38 #[.pointer (some ⟨g, 0, none⟩), vv, .int .u8 103, .int .i64 (-1)] W1 (BuPost W0 (l ++ TL))) := ⟨fun W hW W0 W1 g vv l hb0 ho hbu hl => by
      rw [hTL]
      exact appN_c g P vN b n m f x neg _ W0 W1 vv l ho hbP hP2 hx3 hbu (by omega) (pwb (pwb HPW.out hW) hb0) ((HLF.out.below hW).below hb0) (tbb (tbb HTB.out hW) hb0)⟩
    obtain ⟨TT, hTT⟩ : ∃ TT, TT = strOfNums TL := ⟨_, rfl⟩
    obtain ⟨SB, hSB⟩ : ∃ SB, SB = strOfNums Lb := ⟨_, rfl⟩
    obtain ⟨SC, hSC⟩ : ∃ SC, SC = strOfNums (Lb ++ TL) := ⟨_, rfl⟩
    have hadd : ∀ w, (Op.stringOp .add SB TT).run Tryz.prog w = .ok (.string SC) w := fun w => by
      rw [show SC = SB ++ TT by rw [hSC, hSB, hTT, ← strOfNums_app]]
      exact run_string_add_sum w SB TT (by rw [hSB, hTT, strOfNums_sz, strOfNums_sz]; omega)
    have HTX : Aside0 (∀ W, Below w2.heap.size w2 W → Calls Tryz.prog 14 #[.agg #[.int .u64 P, .int .i64 m, .int .i64 f, .bool neg, .slice A X.length c, .int .i64 x], .int .u8 103, .int .i64 (-1)] W fun e w' => e = .returned (.string TT) ∧ Below W.heap.size W w') := ⟨fun W hW => by
      rw [hTT]
      exact textR_c P b n m f 103 (-1) neg A X.length c x (vN : Int) X _ W (HRK.out.below hW) (by omega) (fun W0 W1 g vv hb0 ho hbu => by
        have := HA.out W hW W0 W1 g vv [] hb0 ho hbu (by simp)
        rwa [List.nil_append] at this)⟩
    have HMA : Aside0 (∀ W, Below w2.heap.size w2 W → Calls Tryz.prog 22 #[.agg #[.int .u64 P, .int .i64 m, .int .i64 f, .bool neg, .slice A X.length c, .int .i64 x]] W fun e w' => ∃ v' W0, e = .returned (.tuple #[v', .bool true]) ∧ Bu W0 w' v' TL ∧ Below W.heap.size W W0 ∧ Below W.heap.size W w') := ⟨fun W hW => marshal_c P b n m f neg A X.length c x (vN : Int) X TL W (HRK.out.below hW) (HA.out W hW)⟩
    have HMO : Aside0 (∀ W, Below w2.heap.size w2 W → Calls Tryz.prog 23 #[.slice Ab Lb.length cb, .agg #[.int .u64 P, .int .i64 m, .int .i64 f, .bool neg, .slice A X.length c, .int .i64 x]] W fun e w' => ∃ v' W0, e = .returned (.tuple #[v', .bool true]) ∧ Bu W0 w' v' (Lb ++ TL) ∧ Below W.heap.size W W0 ∧ Below W.heap.size W w') := ⟨fun W hW => marshalOnto_c P b n m f neg A Ab X.length c cb x (vN : Int) X TL Lb W (HRK.out.below hW) (Kd.C_below HCB.out hW) (by omega) (HA.out W hW)⟩
    have HCF : Aside0 (∀ W, Below w2.heap.size w2 W → (convert 43 9 (.slice Ab Lb.length cb)).run Tryz.prog W = .ok (.string SB) W) := ⟨fun W hW => by rw [hSB]; exact Kd.C_string Tryz.underlying43 Tryz.underlying5 Tryz.underlying9 (Kd.C_below HCB.out hW)⟩
    have HTT := Aside0.mk hTT
    have HSC := Aside0.mk hSC
    clear HPL HRO hok hr hbP hP2 hx3 hTT hSB hSC HA HRK HLF HPW HTB HCB hTL hTLn
    go_enter Tryz.func8, Tryz.ntmps8
    go_wp2_with ((fail_if_success go_at_call 21); go_in)
    rw [← hw2]
    clear hw2
    refine HPL1.out.mono ?_
    rintro e w3 ⟨rfl, hb3⟩
    have HB3 := Aside0.mk (below_step HB0.out hb3)
    have HV3 := Aside0.mk hb3
    have KX3 := Aside0.mk (hp_below KX.out hb3)
    clear hb3 c0 c1 c2 c3 c4 c5 f0 f1 f2 f3 f4 f5 l1
    obtain ⟨c0, c1, c2, c3, c4, c5, f0, f1, f2, f3, f4, f5⟩ := blk6 KX3.out
    have l1 := hp_lt KX3.out
    go_wp2_with (first | (go_at_call 22; refine (HMA.out w3 HV3.out).mono ?_; rintro e w4 ⟨v4, W4, rfl, hbu4, hbw4, hb4⟩; have HB4 := Aside0.mk (below_step HB3.out hb4); have HV4 := Aside0.mk (below_step HV3.out hb4); have KX4 := Aside0.mk (hp_below KX3.out hb4); have HU4 := Aside0.mk hbu4; clear hb4 hbw4 hbu4; clear c0 c1 c2 c3 c4 c5 f0 f1 f2 f3 f4 f5 l1; obtain ⟨c0, c1, c2, c3, c4, c5, f0, f1, f2, f3, f4, f5⟩ := blk6 KX4.out; have l1 := hp_lt KX4.out) | (go_at_call 23; refine (HMO.out w4 HV4.out).mono ?_; rintro e w5 ⟨v5, W5, rfl, hbu5, hbw5, hb5⟩; have HB5 := Aside0.mk (below_step HB4.out hb5); have HV5 := Aside0.mk (below_step HV4.out hb5); have KX5 := Aside0.mk (hp_below KX4.out hb5); have HU5 := Aside0.mk hbu5; have HU45 := Aside0.mk (HU4.out.below hb5); clear hb5 hbw5 hbu5; clear c0 c1 c2 c3 c4 c5 f0 f1 f2 f3 f4 f5 l1; obtain ⟨c0, c1, c2, c3, c4, c5, f0, f1, f2, f3, f4, f5⟩ := blk6 KX5.out; have l1 := hp_lt KX5.out) | fail)
    have HC4 : Aside0 (∀ W, Below w5.heap.size w5 W → (convert 43 9 v4).run Tryz.prog W = .ok (.string TT) W) := ⟨fun W hW => by rw [HTT.out]; exact bu_string (HU45.out.below hW) 9 Tryz.underlying9⟩
    have HC5 : Aside0 (∀ W, Below w5.heap.size w5 W → (convert 43 9 v5).run Tryz.prog W = .ok (.string SC) W) := ⟨fun W hW => by rw [HSC.out]; exact bu_string (HU5.out.below hW) 9 Tryz.underlying9⟩
    have HVD := Aside0.mk (below_drew1 (Below.refl w5.heap.size w5))
    clear HU4 HU5 HU45
    refine start_ (n := 22) (S := fun w' => w'.cell? ⟨w.heap.size, 0, none⟩ = some (.int .u64 P) ∧ w'.cell? ⟨w.heap.size, 1, none⟩ = some (.int .i64 m) ∧ w'.cell? ⟨w.heap.size, 2, none⟩ = some (.int .i64 f) ∧ w'.cell? ⟨w.heap.size, 3, none⟩ = some (.bool neg) ∧ w'.cell? ⟨w.heap.size, 4, none⟩ = some (.slice A X.length c) ∧ w'.cell? ⟨w.heap.size, 5, none⟩ = some (.int .i64 x) ∧ (convert 43 9 v4).run Tryz.prog w' = .ok (.string TT) w' ∧ (convert 43 9 v5).run Tryz.prog w' = .ok (.string SC) w' ∧ (convert 43 9 (.slice Ab Lb.length cb)).run Tryz.prog w' = .ok (.string SB) w') (ds := []) #[false, false, false, false, false, false, false, false, false, false, false, false, false, false, false, false, false, false, false, false, false, false] (by kernel_rfl) rfl rfl ⟨(by go_simp), (by go_simp), (by go_simp), (by go_simp), (by go_simp), (by go_simp), (HC4.out _ HVD.out), (HC5.out _ HVD.out), (HCF.out _ (below_drew1 HV5.out))⟩ (fun hHeld => ?_)
    refine pure_ (i := 0) (N := some 36) (v := ?_) (a' := ?_) #[true, false, false, false, false, false, false, false, false, false, false, false, false, false, false, false, false, false, false, false, false, false] rfl rfl (by kernel_rfl) (fun _ _ _ h => h) (Or.inl ⟨by rfl, ?_⟩) ?_ ?_
    rotate_left
    · intro w'
      go_simp
      with_reducible rfl
    rotate_left
    · simp only [Act.put, List.setIfInBounds_toArray, List.set_cons_zero, List.set_cons_succ, i64_w, i32_w]
      rfl
    refine pure_ (i := 1) (N := some 37) (v := ?_) (a' := ?_) #[true, true, false, false, false, false, false, false, false, false, false, false, false, false, false, false, false, false, false, false, false, false] rfl rfl (by kernel_rfl) (fun _ _ _ h => h) (Or.inl ⟨by rfl, ?_⟩) ?_ ?_
    rotate_left
    · intro w'
      go_simp
      with_reducible rfl
    rotate_left
    · simp only [Act.put, List.setIfInBounds_toArray, List.set_cons_zero, List.set_cons_succ, i64_w, i32_w]
      rfl
    refine pure_ (i := 2) (N := some 38) (v := ?_) (a' := ?_) #[true, true, true, false, false, false, false, false, false, false, false, false, false, false, false, false, false, false, false, false, false, false] rfl rfl (by kernel_rfl) (fun _ _ _ h => h) (Or.inl ⟨by rfl, ?_⟩) ?_ ?_
    rotate_left
    · intro w'
      go_simp
      with_reducible rfl
    rotate_left
    · simp only [Act.put, List.setIfInBounds_toArray, List.set_cons_zero, List.set_cons_succ, i64_w, i32_w]
      rfl
    refine pure_ (i := 3) (N := some 39) (v := ?_) (a' := ?_) #[true, true, true, true, false, false, false, false, false, false, false, false, false, false, false, false, false, false, false, false, false, false] rfl rfl (by kernel_rfl) (fun _ _ _ h => h) (Or.inl ⟨by rfl, ?_⟩) ?_ ?_
    rotate_left
    · intro w'
      go_simp
      with_reducible rfl
    rotate_left
    · simp only [Act.put, List.setIfInBounds_toArray, List.set_cons_zero, List.set_cons_succ, i64_w, i32_w]
      rfl
    refine pure_ (i := 4) (N := some 40) (v := ?_) (a' := ?_) #[true, true, true, true, true, false, false, false, false, false, false, false, false, false, false, false, false, false, false, false, false, false] rfl rfl (by kernel_rfl) (fun _ _ _ h => h) (Or.inl ⟨by rfl, ?_⟩) ?_ ?_
    rotate_left
    · intro w'
      go_simp
      with_reducible rfl
    rotate_left
    · simp only [Act.put, List.setIfInBounds_toArray, List.set_cons_zero, List.set_cons_succ, i64_w, i32_w]
      rfl
    refine pure_ (i := 5) (N := some 41) (v := ?_) (a' := ?_) #[true, true, true, true, true, true, false, false, false, false, false, false, false, false, false, false, false, false, false, false, false, false] rfl rfl (by kernel_rfl) (fun _ _ _ h => h) (Or.inl ⟨by rfl, ?_⟩) ?_ ?_
    rotate_left
    · intro w'
      go_simp
      with_reducible rfl
    rotate_left
    · simp only [Act.put, List.setIfInBounds_toArray, List.set_cons_zero, List.set_cons_succ, i64_w, i32_w]
      rfl
    refine take_ (i := 6) (N := some 42) (v := ?_) (a' := ?_) #[true, true, true, true, true, true, true, false, false, false, false, false, false, false, false, false, false, false, false, false, false, false] rfl rfl (by kernel_rfl) (fun _ _ _ h => h) (Or.inl ⟨by rfl, ?_⟩) hHeld ?_ ?_
    rotate_left
    · rintro w' ⟨s0, s1, s2, s3, s4, s5, s6, s7, s8⟩
      go_simp
      with_reducible rfl
    rotate_left
    · simp only [Act.put, List.setIfInBounds_toArray, List.set_cons_zero, List.set_cons_succ, i64_w, i32_w]
      rfl
    refine take_ (i := 7) (N := some 43) (v := ?_) (a' := ?_) #[true, true, true, true, true, true, true, true, false, false, false, false, false, false, false, false, false, false, false, false, false, false] rfl rfl (by kernel_rfl) (fun _ _ _ h => h) (Or.inl ⟨by rfl, ?_⟩) hHeld ?_ ?_
    rotate_left
    · rintro w' ⟨s0, s1, s2, s3, s4, s5, s6, s7, s8⟩
      go_simp
      with_reducible rfl
    rotate_left
    · simp only [Act.put, List.setIfInBounds_toArray, List.set_cons_zero, List.set_cons_succ, i64_w, i32_w]
      rfl
    refine one_ (i := 8) (N := some 44) #[true, true, true, true, true, true, true, true, true, false, false, false, false, false, false, false, false, false, false, false, false, false] rfl rfl (by kernel_rfl) (by decide) (fun K hK => ?_)
    refine goes_ Tryz.func14 (by kernel_rfl) rfl #[.agg #[.int .u64 P, .int .i64 m, .int .i64 f, .bool neg, .slice A X.length c, .int .i64 x], .int .u8 103, .int .i64 (-1)] (by rfl) rfl rfl (by simp only [List.map_toArray, List.map_cons, List.map_nil]; rfl) ?_
    with_reducible refine (HTX.out _ (below_drew1 HV5.out)).mono ?_
    rintro e w6 ⟨rfl, hb6⟩
    refine ⟨_, rfl, ?_⟩
    have HB6 := Aside0.mk (below_step (below_drew1 HB5.out) hb6)
    have KX6 := Aside0.mk (hp_below (show hp w5.drew w.heap.size = _ from KX5.out) hb6)
    obtain ⟨q0, q1, q2, q3, q4, q5, _, _, _, _, _, _⟩ := blk6 KX6.out
    have r4 := HC4.out _ (below_step HVD.out hb6)
    have r5 := HC5.out _ (below_step HVD.out hb6)
    have rf := HCF.out _ (below_step (below_drew1 HV5.out) hb6)
    clear hb6
    refine hK.out _ _ ⟨q0, q1, q2, q3, q4, q5, r4, r5, rf⟩ (fun hHeld => ?_)
    clear hK K
    refine norm_ (a' := ?_) ?_ ?_
    rotate_left
    · show Act.put _ (some 44) _ = _
      simp only [Act.put, List.setIfInBounds_toArray, List.set_cons_zero, List.set_cons_succ, i64_w, i32_w]
      rfl
    refine pure_ (i := 9) (N := some 45) (v := ?_) (a' := ?_) #[true, true, true, true, true, true, true, true, true, true, false, false, false, false, false, false, false, false, false, false, false, false] rfl rfl (by kernel_rfl) (fun _ _ _ h => h) (Or.inl ⟨by rfl, ?_⟩) ?_ ?_
    rotate_left
    · intro w'
      go_simp
      with_reducible rfl
    rotate_left
    · simp only [Act.put, List.setIfInBounds_toArray, List.set_cons_zero, List.set_cons_succ, i64_w, i32_w]
      rfl
    refine pure_ (i := 10) (N := some 46) (v := ?_) (a' := ?_) #[true, true, true, true, true, true, true, true, true, true, true, false, false, false, false, false, false, false, false, false, false, false] rfl rfl (by kernel_rfl) (fun _ _ _ h => h) (Or.inl ⟨by rfl, ?_⟩) ?_ ?_
    rotate_left
    · intro w'
      go_simp
      with_reducible rfl
    rotate_left
    · simp only [Act.put, List.setIfInBounds_toArray, List.set_cons_zero, List.set_cons_succ, i64_w, i32_w]
      rfl
    refine pure_ (i := 11) (N := some 47) (v := ?_) (a' := ?_) #[true, true, true, true, true, true, true, true, true, true, true, true, false, false, false, false, false, false, false, false, false, false] rfl rfl (by kernel_rfl) (fun _ _ _ h => h) (Or.inl ⟨by rfl, ?_⟩) ?_ ?_
    rotate_left
    · intro w'
      go_simp
      with_reducible rfl
    rotate_left
    · simp only [Act.put, List.setIfInBounds_toArray, List.set_cons_zero, List.set_cons_succ, i64_w, i32_w]
      rfl
    refine pure_ (i := 12) (N := some 48) (v := ?_) (a' := ?_) #[true, true, true, true, true, true, true, true, true, true, true, true, true, false, false, false, false, false, false, false, false, false] rfl rfl (by kernel_rfl) (fun _ _ _ h => h) (Or.inl ⟨by rfl, ?_⟩) ?_ ?_
    rotate_left
    · intro w'
      go_simp
      with_reducible rfl
    rotate_left
    · simp only [Act.put, List.setIfInBounds_toArray, List.set_cons_zero, List.set_cons_succ, i64_w, i32_w]
      rfl
    refine pure_ (i := 14) (N := some 50) (v := ?_) (a' := ?_) #[true, true, true, true, true, true, true, true, true, true, true, true, true, false, true, false, false, false, false, false, false, false] rfl rfl (by kernel_rfl) (fun _ _ _ h => h) (Or.inl ⟨by rfl, ?_⟩) ?_ ?_
    rotate_left
    · intro w'
      go_simp
      with_reducible rfl
    rotate_left
    · simp only [Act.put, List.setIfInBounds_toArray, List.set_cons_zero, List.set_cons_succ, i64_w, i32_w]
      rfl
    refine pure_ (i := 16) (N := some 52) (v := ?_) (a' := ?_) #[true, true, true, true, true, true, true, true, true, true, true, true, true, false, true, false, true, false, false, false, false, false] rfl rfl (by kernel_rfl) (fun _ _ _ h => h) (Or.inl ⟨by rfl, ?_⟩) ?_ ?_
    rotate_left
    · intro w'
      go_simp
      with_reducible rfl
    rotate_left
    · simp only [Act.put, List.setIfInBounds_toArray, List.set_cons_zero, List.set_cons_succ, i64_w, i32_w]
      rfl
    refine take_ (i := 13) (N := some 49) (v := ?_) (a' := ?_) #[true, true, true, true, true, true, true, true, true, true, true, true, true, true, true, false, true, false, false, false, false, false] rfl rfl (by kernel_rfl) (fun _ _ _ h => h) (Or.inl ⟨by rfl, ?_⟩) hHeld ?_ ?_
    rotate_left
    · rintro w' ⟨s0, s1, s2, s3, s4, s5, s6, s7, s8⟩
      go_simp
      with_reducible rfl
    rotate_left
    · simp only [Act.put, List.setIfInBounds_toArray, List.set_cons_zero, List.set_cons_succ, i64_w, i32_w]
      rfl
    refine take_ (i := 15) (N := some 51) (v := ?_) (a' := ?_) #[true, true, true, true, true, true, true, true, true, true, true, true, true, true, true, true, true, false, false, false, false, false] rfl rfl (by kernel_rfl) (fun _ _ _ h => h) (Or.inl ⟨by rfl, ?_⟩) hHeld ?_ ?_
    rotate_left
    · rintro w' ⟨s0, s1, s2, s3, s4, s5, s6, s7, s8⟩
      go_simp
      with_reducible rfl
    rotate_left
    · simp only [Act.put, List.setIfInBounds_toArray, List.set_cons_zero, List.set_cons_succ, i64_w, i32_w]
      rfl
    refine take_ (i := 17) (N := some 53) (v := ?_) (a' := ?_) #[true, true, true, true, true, true, true, true, true, true, true, true, true, true, true, true, true, true, false, false, false, false] rfl rfl (by kernel_rfl) (fun _ _ _ h => h) (Or.inl ⟨by rfl, ?_⟩) hHeld ?_ ?_
    rotate_left
    · rintro w' ⟨s0, s1, s2, s3, s4, s5, s6, s7, s8⟩
      go_simp
      with_reducible rfl
    rotate_left
    · simp only [Act.put, List.setIfInBounds_toArray, List.set_cons_zero, List.set_cons_succ, i64_w, i32_w]
      rfl
    refine pure_ (i := 18) (N := some 54) (v := ?_) (a' := ?_) #[true, true, true, true, true, true, true, true, true, true, true, true, true, true, true, true, true, true, true, false, false, false] rfl rfl (by kernel_rfl) (fun _ _ _ h => h) (Or.inl ⟨by rfl, ?_⟩) ?_ ?_
    rotate_left
    · intro w'
      go_simp
      with_reducible rfl
    rotate_left
    · simp only [Act.put, List.setIfInBounds_toArray, List.set_cons_zero, List.set_cons_succ, i64_w, i32_w]
      rfl
    refine pure_ (i := 19) (N := some 55) (v := ?_) (a' := ?_) #[true, true, true, true, true, true, true, true, true, true, true, true, true, true, true, true, true, true, true, true, false, false] rfl rfl (by kernel_rfl) (fun _ _ _ h => h) (Or.inl ⟨by rfl, ?_⟩) ?_ ?_
    rotate_left
    · intro w'
      go_simp
      with_reducible rfl
    rotate_left
    · simp only [Act.put, List.setIfInBounds_toArray, List.set_cons_zero, List.set_cons_succ, i64_w, i32_w]
      rfl
    refine pure_ (i := 20) (N := some 56) (v := ?_) (a' := ?_) #[true, true, true, true, true, true, true, true, true, true, true, true, true, true, true, true, true, true, true, true, true, false] rfl rfl (by kernel_rfl) (fun _ _ _ h => h) (Or.inl ⟨by rfl, ?_⟩) ?_ ?_
    rotate_left
    · intro w'
      go_simp
      with_reducible rfl
    rotate_left
    · simp only [Act.put, List.setIfInBounds_toArray, List.set_cons_zero, List.set_cons_succ, i64_w, i32_w]
      rfl
    refine pure_ (i := 21) (N := some 4) (v := ?_) (a' := ?_) #[true, true, true, true, true, true, true, true, true, true, true, true, true, true, true, true, true, true, true, true, true, true] rfl rfl (by kernel_rfl) (fun _ _ _ h => h) (Or.inl ⟨by rfl, ?_⟩) ?_ ?_
    rotate_left
    · intro w'
      go_simp
      with_reducible rfl
    rotate_left
    · simp only [Act.put, List.setIfInBounds_toArray, List.set_cons_zero, List.set_cons_succ, i64_w, i32_w]
      rfl
    refine done_ (by kernel_rfl) ?_
    go_wp2_with (fail)
    go_ret
    exact ⟨rfl, HB6.out⟩
  · have HPL1 : Aside0 (Calls Tryz.prog 21 #[.agg #[.int .u64 P, .int .i64 m, .int .i64 f, .bool neg, .slice A X.length c, .int .i64 x], .int .u64 200, .int .i64 300] w2 fun e w' => e = .returned (.bool false) ∧ Below w2.heap.size w2 w') := ⟨HPL.out.mono (by
      rintro e w' ⟨r, rfl, h, hb⟩
      refine ⟨?_, hb⟩
      cases r with
      | false => rfl
      | true => exact absurd (h.1 rfl) hok)⟩
    clear HPL hok
    go_enter Tryz.func8, Tryz.ntmps8
    go_wp2_with ((fail_if_success go_at_call 21); go_in)
    rw [← hw2]
    clear hw2
    refine HPL1.out.mono ?_
    rintro e w3 ⟨rfl, hb3⟩
    have HB3 := Aside0.mk (below_step HB0.out hb3)
    clear hb3
    go_wp2_with (fail)
    go_ret
    exact ⟨rfl, HB3.out⟩
end Go.Proofs.YtfnknldbjckgoaaGreatDoor.fnMarshal
