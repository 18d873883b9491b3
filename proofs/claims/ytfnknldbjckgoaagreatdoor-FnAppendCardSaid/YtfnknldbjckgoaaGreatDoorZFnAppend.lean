/-
  FnAppend holds for every input.
-/
import Derived.Test.YtfnknldbjckgoaaGreatDoorZAppAny
import Derived.Test.YtfnknldbjckgoaaGreatDoorZGrea
import Derived.Deep.CutBlock
namespace Go.Proofs.YtfnknldbjckgoaaGreatDoor.fnAppend
open Go.RowKit Go.Proofs.YtfnknldbjckgoaaGreatDoorW.PrintWords Go.Proofs.YtfnknldbjckgoaaGreatDoorW.PrintLast Go.Proofs.YtfnknldbjckgoaaGreatDoorW.PrintMore Go.Proofs.YtfnknldbjckgoaaGreatDoor.Dig Go.Proofs.YtfnknldbjckgoaaGreatDoor.Sp
set_option linter.unusedVariables false
set_option linter.unusedSimpArgs false
theorem pwb {w w' : World} (h : Pw w) (hb : Below w.heap.size w w') : Pw w' := ((Go.Lib.tabBelow_of_tabIs h).on hb).here
theorem tbb {w w' : World} (h : Tb w) (hb : Below w.heap.size w w') : Tb w' := h.kept (Kept.of_below (S := fun _ => False) hb) (fun h => h)
set_option maxHeartbeats 6400000 in
set_option maxRecDepth 100000 in
theorem walk (vb : Value) (Lb : List Int) (p m f : Int) (neg : Bool) (v : Value) (X : List Int) (x : Int) (ch0 : Int) (hc0 : (Lit.int .u8 ch0).wf = true) (n0 : Int) (hn0 : (Lit.int .u8 n0).wf = true) (w : World) (hvb : InInts .u8 w vb Lb) (hv : InInts .u64 w v X) (hp : (Lit.int .u64 p).wf = true) (hm : (Lit.int .i64 m).wf = true) (hf : (Lit.int .i64 f).wf = true) (hx : (Lit.int .i64 x).wf = true) (hL : Leaf w) (hT : Pw w) (hTb : Tb w) :
    Calls Tryz.prog 9 #[vb, .agg #[.int .u64 p, .int .i64 m, .int .i64 f, .bool neg, v, .int .i64 x], .int .u8 ch0, .int .u8 n0] w fun e w' => e = .returned (.bool true) ∧ Below w.heap.size w w' := by
  have hws := ws_in hv
  obtain ⟨A, c, rfl, _⟩ := hv
  obtain ⟨Ab, cb, rfl, hbc, hlb, _⟩ := hvb
  have hpp := wf_u64 hp
  have hc2 := wf_u8 hc0
  have hn2 := wf_u8 hn0
  clear hp hm hf hx hc0 hn0
  obtain ⟨P, rfl⟩ := Int.eq_ofNat_of_zero_le hpp.1
  have hu := Tryz.underlying25
  have HB00 := Aside0.mk (below_alloc (Below.refl w.heap.size w) (.cells #[.int .u64 P, .int .i64 m, .int .i64 f, .bool neg, .slice A X.length c, .int .i64 x] 25))
  have HB0 := Aside0.mk (below_alloc HB00.out (.cells #[.int .u64 P, .int .i64 m, .int .i64 f, .bool neg, .slice A X.length c, .int .i64 x] 25))
  have KX := Aside0.mk (show hp ((w.alloc (.cells #[.int .u64 P, .int .i64 m, .int .i64 f, .bool neg, .slice A X.length c, .int .i64 x] 25)).alloc (.cells #[.int .u64 P, .int .i64 m, .int .i64 f, .bool neg, .slice A X.length c, .int .i64 x] 25)) w.heap.size = some (.cells #[.int .u64 P, .int .i64 m, .int .i64 f, .bool neg, .slice A X.length c, .int .i64 x] 25 (0, 0)) from (by simp (disch := first | omega | (simp; omega) | (simp; done) | fail) [hp_new, hp_old, hp_here, hp_other, setObj_cells, hp_drew, hp_drewN]))
  have HX := Aside0.mk (hws.below HB0.out)
  have HLF := Aside0.mk (hL.below HB0.out)
  have HPW := Aside0.mk (pwb hT HB0.out)
  have HTB := Aside0.mk (tbb hTb HB0.out)
  have HCB := Aside0.mk (Kd.C_below hlb HB0.out)
  clear hws hL hT hTb hlb
  by_cases hbl : 2147483647 < Lb.length
  · have hbli : (2147483647 : Int) < (Lb.length : Int) := by omega
    go_enter Tryz.func9, Tryz.ntmps9
    go_wp2_with ((fail_if_success go_at_call 21); go_in)
    go_ret
    exact ⟨rfl, HB00.out⟩
  have hbli : ¬ (2147483647 : Int) < (Lb.length : Int) := by omega
  by_cases hbb : 2147483647 < X.length
  · go_enter Tryz.func9, Tryz.ntmps9
    go_wp2_with ((fail_if_success go_at_call 21); go_in)
    go_ret
    exact ⟨rfl, HB0.out⟩
  obtain ⟨w2, hw2⟩ : ∃ w2, w2 = (w.alloc (.cells #[.int .u64 P, .int .i64 m, .int .i64 f, .bool neg, .slice A X.length c, .int .i64 x] 25)).alloc (.cells #[.int .u64 P, .int .i64 m, .int .i64 f, .bool neg, .slice A X.length c, .int .i64 x] 25) := ⟨_, rfl⟩
  rw [← hw2] at HB0 KX HX HLF HPW HTB HCB
  have HPL := Aside0.mk (real_m 200 300 P m f x neg A c X w2 HX.out (by omega) (by omega) hpp.1)
  obtain ⟨c0, c1, c2, c3, c4, c5, f0, f1, f2, f3, f4, f5⟩ := blk6 KX.out
  have l1 := hp_lt KX.out
  by_cases hok : RealOk 200 300 P m f x X
  · have HRO := Aside0.mk hok
    have HPL1 : Aside0 (Calls Tryz.prog 21 #[.agg #[.int .u64 P, .int .i64 m, .int .i64 f, .bool neg, .slice A X.length c, .int .i64 x], .int .u64 200, .int .i64 300] w2 fun e w' => e = .returned (.bool true) ∧ Below w2.heap.size w2 w') := ⟨HPL.out.mono (by
      rintro e w' ⟨r, rfl, h, hb⟩
      obtain rfl : r = true := h.2 HRO.out
      exact ⟨rfl, hb⟩)⟩
    by_cases hl1 : 100 < Lb.length
    · have hl1i : (100 : Int) < (Lb.length : Int) := by omega
      clear HPL HRO hok
      go_enter Tryz.func9, Tryz.ntmps9
      go_wp2_with ((fail_if_success go_at_call 21); go_in)
      rw [← hw2]
      clear hw2
      refine HPL1.out.mono ?_
      rintro e w3 ⟨rfl, hb3⟩
      have HB3 := Aside0.mk (below_step HB0.out hb3)
      clear hb3
      go_wp2_with (fail)
      go_ret
      exact ⟨rfl, HB3.out⟩
    have hl1i : ¬ (100 : Int) < (Lb.length : Int) := by omega
    obtain ⟨vN, b, n, hr, hbP, hP2, hx3⟩ := rok_of2 hok HX.out
    have HRK := Aside0.mk hr
    obtain ⟨q, hq⟩ := Int.eq_ofNat_of_zero_le (a := ch0.tmod 8) (Int.tmod_nonneg 8 hc2.1)
    have hq8 : q < 8 := by rw [Int.tmod_eq_emod_of_nonneg hc2.1] at hq; omega
    obtain ⟨ch, hch⟩ : ∃ ch, ch = ([101, 69, 102, 103, 71, 120, 112, 98] : List Int).getD q 0 := ⟨_, rfl⟩
    have hFm : Fm ch := by
      rw [hch]
      unfold Fm
      rcases (by omega : q = 0 ∨ q = 1 ∨ q = 2 ∨ q = 3 ∨ q = 4 ∨ q = 5 ∨ q = 6 ∨ q = 7) with rfl | rfl | rfl | rfl | rfl | rfl | rfl | rfl <;> simp
    obtain ⟨k1, hk1⟩ := Int.eq_ofNat_of_zero_le (a := n0.tmod 32) (Int.tmod_nonneg 32 hn2.1)
    have hk9 : k1 ≤ 31 := by rw [Int.tmod_eq_emod_of_nonneg hn2.1] at hk1; omega
    have hku : IntKind.u8.wrap (k1 : Int) = (k1 : Int) := by rw [IntKind.wrap_u8']; omega
    have hki : IntKind.i64.wrap (k1 : Int) = (k1 : Int) := IntWalk.i64_in _ (by omega)
    obtain ⟨k, hk⟩ : ∃ k : Int, (k1 : Int) - 1 = k := ⟨_, rfl⟩
    have hk2 : -1 ≤ k ∧ k ≤ 30 := by omega
    have hkw : IntKind.i64.wrap k = k := IntWalk.i64_in _ (by omega)
    obtain ⟨TL, hTLn, hAP⟩ := appAny P vN b n m f x k ch neg (by rcases hr.2.2 with h | ⟨h, _⟩ <;> omega) (fun hf => by
      rcases hr.2.2 with h | ⟨_, _, _, _, h3, h4, _⟩
      · omega
      · exact ⟨by omega, h4, hbP hf, (hx3 hf).1, (hx3 hf).2⟩) hP2 (by have := hr.2.1; omega) hk2 hFm
    have HA : Aside0 (∀ W, Below w2.heap.size w2 W → ∀ W0 W1 g (vv : Value) (l : List Int), Below W.heap.size W W0 → Fl (W.alloc (.cells #[.int .u64 P, .int .i64 m, .int .i64 f, .bool neg, .slice A X.length c, .int .i64 x] 25)) W0 g P m f neg (vN : Int) x b n → Bu W0 W1 vv l → l.length ≤ 100000 → Calls Tryz.prog 38 #[.pointer (some ⟨g, 0, none⟩), vv, .int .u8 ch, .int .i64 k] W1 (BuPost W0 (l ++ TL))) := ⟨fun W hW W0 W1 g vv l hb0 ho hbu hl =>
      hAP _ W0 W1 g vv l ho hbu (by omega) (pwb (pwb HPW.out hW) hb0) ((HLF.out.below hW).below hb0) (tbb (tbb HTB.out hW) hb0)⟩
    obtain ⟨TT, hTT⟩ : ∃ TT, TT = strOfNums TL := ⟨_, rfl⟩
    obtain ⟨SB, hSB⟩ : ∃ SB, SB = strOfNums Lb := ⟨_, rfl⟩
    obtain ⟨SC, hSC⟩ : ∃ SC, SC = strOfNums (Lb ++ TL) := ⟨_, rfl⟩
    have hadd : ∀ w, (Op.stringOp .add SB TT).run Tryz.prog w = .ok (.string SC) w := fun w => by
      rw [show SC = SB ++ TT by rw [hSC, hSB, hTT, ← son_app]]
      exact run_string_add_sum w SB TT (by rw [hSB, hTT, son_sz, son_sz]; omega)
    have HTX : Aside0 (∀ W, Below w2.heap.size w2 W → Calls Tryz.prog 14 #[.agg #[.int .u64 P, .int .i64 m, .int .i64 f, .bool neg, .slice A X.length c, .int .i64 x], .int .u8 ch, .int .i64 k] W fun e w' => e = .returned (.string TT) ∧ Below W.heap.size W w') := ⟨fun W hW => by
      rw [hTT]
      exact textR_c P b n m f ch k neg A X.length c x (vN : Int) X _ W (HRK.out.below hW) (by omega) (fun W0 W1 g vv hb0 ho hbu => by
        have := HA.out W hW W0 W1 g vv [] hb0 ho hbu (by simp)
        rwa [List.nil_append] at this)⟩
    have HAO : Aside0 (∀ W, Below w2.heap.size w2 W → Calls Tryz.prog 24 #[.slice Ab Lb.length cb, .agg #[.int .u64 P, .int .i64 m, .int .i64 f, .bool neg, .slice A X.length c, .int .i64 x], .int .u8 ch, .int .i64 k] W fun e w' => ∃ v', e = .returned v' ∧ (∀ W', Below w'.heap.size w' W' → (convert 43 9 v').run Tryz.prog W' = .ok (.string SC) W') ∧ Below W.heap.size W w') := ⟨fun W hW => by
      refine (append_c P b n m f ch k neg A Ab X.length c cb x (vN : Int) X TL Lb W (HRK.out.below hW) (Kd.C_below HCB.out hW) (by omega) (HA.out W hW)).mono ?_
      rintro e w' ⟨v', W0, rfl, hbu, _, hb⟩
      exact ⟨v', rfl, fun W' hW' => by rw [hSC]; exact bu_string (hbu.below hW') 9 Tryz.underlying9, hb⟩⟩
    have HCF : Aside0 (∀ W, Below w2.heap.size w2 W → (convert 43 9 (.slice Ab Lb.length cb)).run Tryz.prog W = .ok (.string SB) W) := ⟨fun W hW => by rw [hSB]; exact Kd.C_string Tryz.underlying43 Tryz.underlying5 Tryz.underlying9 (Kd.C_below HCB.out hW)⟩
    have HAV : Aside0 (∀ W, Below w2.heap.size w2 W → Calls Tryz.prog 20 #[] W fun e w' => e = .returned (.bool true) ∧ Below W.heap.size W w') := ⟨fun W hW => alive_c W (pwb HPW.out hW) (HLF.out.below hW) (tbb HTB.out hW)⟩
    have HCH := Aside0.mk hch
    clear HPL HRO hok hr hbP hP2 hx3 hTT hSB hSC HA HRK HLF HPW HTB HCB hTLn hAP hFm hk2 hk9 hch
    go_enter Tryz.func9, Tryz.ntmps9
    go_wp2_with ((fail_if_success go_at_call 21); go_in)
    rw [← hw2]
    clear hw2
    refine HPL1.out.mono ?_
    rintro e w3 ⟨rfl, hb3⟩
    have HB3 := Aside0.mk (below_step HB0.out hb3)
    have HV3 := Aside0.mk hb3
    have KX3 := Aside0.mk (hp_below KX.out hb3)
    clear hb3 c0 c1 c2 c3 c4 c5 f0 f1 f2 f3 f4 f5 l1
    go_upto_region 5 with (fail)
    go_cut [9, 10] (fun v9 v10 wx => v9 = .int .u8 ch ∧ v10 = .int .i64 k ∧ w3 = wx)
    case first => as_aux_lemma =>
      rcases (by omega : q = 0 ∨ q = 1 ∨ q = 2 ∨ q = 3 ∨ q = 4 ∨ q = 5 ∨ q = 6 ∨ q = 7) with rfl | rfl | rfl | rfl | rfl | rfl | rfl | rfl
      · have hcm : ch0.tmod 8 = 0 := hq
        go_wp2_with (fail)
        go_meet
        case rel => exact ⟨by rw [HCH.out]; rfl, rfl, rfl⟩
      · have hcm : ch0.tmod 8 = 1 := hq
        go_wp2_with (fail)
        go_meet
        case rel => exact ⟨by rw [HCH.out]; rfl, rfl, rfl⟩
      · have hcm : ch0.tmod 8 = 2 := hq
        go_wp2_with (fail)
        go_meet
        case rel => exact ⟨by rw [HCH.out]; rfl, rfl, rfl⟩
      · have hcm : ch0.tmod 8 = 3 := hq
        go_wp2_with (fail)
        go_meet
        case rel => exact ⟨by rw [HCH.out]; rfl, rfl, rfl⟩
      · have hcm : ch0.tmod 8 = 4 := hq
        go_wp2_with (fail)
        go_meet
        case rel => exact ⟨by rw [HCH.out]; rfl, rfl, rfl⟩
      · have hcm : ch0.tmod 8 = 5 := hq
        go_wp2_with (fail)
        go_meet
        case rel => exact ⟨by rw [HCH.out]; rfl, rfl, rfl⟩
      · have hcm : ch0.tmod 8 = 6 := hq
        go_wp2_with (fail)
        go_meet
        case rel => exact ⟨by rw [HCH.out]; rfl, rfl, rfl⟩
      · have hcm : ch0.tmod 8 = 7 := hq
        go_wp2_with (fail)
        go_meet
        case rel => exact ⟨by rw [HCH.out]; rfl, rfl, rfl⟩
    case rest =>
      obtain ⟨rfl, rfl, rfl⟩ := hcut
      obtain ⟨c0, c1, c2, c3, c4, c5, f0, f1, f2, f3, f4, f5⟩ := blk6 KX3.out
      have l1 := hp_lt KX3.out
      clear hq hq8 HCH hk1 hku hki hk hkw
      have HBR := Aside0.mk (below_drew1 HB3.out)
      have HVR := Aside0.mk (below_drew1 HV3.out)
      have KXR := Aside0.mk (show hp w3.drew w.heap.size = some (.cells #[.int .u64 P, .int .i64 m, .int .i64 f, .bool neg, .slice A X.length c, .int .i64 x] 25 (0, 0)) from KX3.out)
      go_wp2_with (fail)
      refine start_ (n := 18) (S := fun w' => w'.cell? ⟨w.heap.size, 0, none⟩ = some (.int .u64 P) ∧ w'.cell? ⟨w.heap.size, 1, none⟩ = some (.int .i64 m) ∧ w'.cell? ⟨w.heap.size, 2, none⟩ = some (.int .i64 f) ∧ w'.cell? ⟨w.heap.size, 3, none⟩ = some (.bool neg) ∧ w'.cell? ⟨w.heap.size, 4, none⟩ = some (.slice A X.length c) ∧ w'.cell? ⟨w.heap.size, 5, none⟩ = some (.int .i64 x) ∧ (convert 43 9 (.slice Ab Lb.length cb)).run Tryz.prog w' = .ok (.string SB) w') (ds := []) #[false, false, false, false, false, false, false, false, false, false, false, false, false, false, false, false, false, false] (by kernel_rfl) rfl rfl ⟨(by go_simp), (by go_simp), (by go_simp), (by go_simp), (by go_simp), (by go_simp), (HCF.out _ HVR.out)⟩ (fun hHeld => ?_)
      refine pure_ (i := 0) (N := some 34) (v := ?_) (a' := ?_) #[true, false, false, false, false, false, false, false, false, false, false, false, false, false, false, false, false, false] rfl rfl (by kernel_rfl) (fun _ _ _ h => h) (Or.inl ⟨by rfl, ?_⟩) ?_ ?_
      rotate_left
      · intro w'
        go_simp
        with_reducible rfl
      rotate_left
      · simp only [Act.put, List.setIfInBounds_toArray, List.set_cons_zero, List.set_cons_succ, i64_w, i32_w]
        rfl
      refine pure_ (i := 2) (N := some 36) (v := ?_) (a' := ?_) #[true, false, true, false, false, false, false, false, false, false, false, false, false, false, false, false, false, false] rfl rfl (by kernel_rfl) (fun _ _ _ h => h) (Or.inl ⟨by rfl, ?_⟩) ?_ ?_
      rotate_left
      · intro w'
        go_simp
        with_reducible rfl
      rotate_left
      · simp only [Act.put, List.setIfInBounds_toArray, List.set_cons_zero, List.set_cons_succ, i64_w, i32_w]
        rfl
      refine pure_ (i := 3) (N := some 37) (v := ?_) (a' := ?_) #[true, false, true, true, false, false, false, false, false, false, false, false, false, false, false, false, false, false] rfl rfl (by kernel_rfl) (fun _ _ _ h => h) (Or.inl ⟨by rfl, ?_⟩) ?_ ?_
      rotate_left
      · intro w'
        go_simp
        with_reducible rfl
      rotate_left
      · simp only [Act.put, List.setIfInBounds_toArray, List.set_cons_zero, List.set_cons_succ, i64_w, i32_w]
        rfl
      refine pure_ (i := 6) (N := some 40) (v := ?_) (a' := ?_) #[true, false, true, true, false, false, true, false, false, false, false, false, false, false, false, false, false, false] rfl rfl (by kernel_rfl) (fun _ _ _ h => h) (Or.inl ⟨by rfl, ?_⟩) ?_ ?_
      rotate_left
      · intro w'
        go_simp
        with_reducible rfl
      rotate_left
      · simp only [Act.put, List.setIfInBounds_toArray, List.set_cons_zero, List.set_cons_succ, i64_w, i32_w]
        rfl
      refine pure_ (i := 9) (N := some 43) (v := ?_) (a' := ?_) #[true, false, true, true, false, false, true, false, false, true, false, false, false, false, false, false, false, false] rfl rfl (by kernel_rfl) (fun _ _ _ h => h) (Or.inl ⟨by rfl, ?_⟩) ?_ ?_
      rotate_left
      · intro w'
        go_simp
        with_reducible rfl
      rotate_left
      · simp only [Act.put, List.setIfInBounds_toArray, List.set_cons_zero, List.set_cons_succ, i64_w, i32_w]
        rfl
      refine pure_ (i := 10) (N := some 44) (v := ?_) (a' := ?_) #[true, false, true, true, false, false, true, false, false, true, true, false, false, false, false, false, false, false] rfl rfl (by kernel_rfl) (fun _ _ _ h => h) (Or.inl ⟨by rfl, ?_⟩) ?_ ?_
      rotate_left
      · intro w'
        go_simp
        with_reducible rfl
      rotate_left
      · simp only [Act.put, List.setIfInBounds_toArray, List.set_cons_zero, List.set_cons_succ, i64_w, i32_w]
        rfl
      refine take_ (i := 1) (N := some 35) (v := ?_) (a' := ?_) #[true, true, true, true, false, false, true, false, false, true, true, false, false, false, false, false, false, false] rfl rfl (by kernel_rfl) (fun _ _ _ h => h) (Or.inl ⟨by rfl, ?_⟩) hHeld ?_ ?_
      rotate_left
      · rintro w' ⟨s0, s1, s2, s3, s4, s5, s6⟩
        go_simp
        with_reducible rfl
      rotate_left
      · simp only [Act.put, List.setIfInBounds_toArray, List.set_cons_zero, List.set_cons_succ, i64_w, i32_w]
        rfl
      refine take_ (i := 7) (N := some 41) (v := ?_) (a' := ?_) #[true, true, true, true, false, false, true, true, false, true, true, false, false, false, false, false, false, false] rfl rfl (by kernel_rfl) (fun _ _ _ h => h) (Or.inl ⟨by rfl, ?_⟩) hHeld ?_ ?_
      rotate_left
      · rintro w' ⟨s0, s1, s2, s3, s4, s5, s6⟩
        go_simp
        with_reducible rfl
      rotate_left
      · simp only [Act.put, List.setIfInBounds_toArray, List.set_cons_zero, List.set_cons_succ, i64_w, i32_w]
        rfl
      refine take_ (i := 8) (N := some 42) (v := ?_) (a' := ?_) #[true, true, true, true, false, false, true, true, true, true, true, false, false, false, false, false, false, false] rfl rfl (by kernel_rfl) (fun _ _ _ h => h) (Or.inl ⟨by rfl, ?_⟩) hHeld ?_ ?_
      rotate_left
      · rintro w' ⟨s0, s1, s2, s3, s4, s5, s6⟩
        go_simp
        with_reducible rfl
      rotate_left
      · simp only [Act.put, List.setIfInBounds_toArray, List.set_cons_zero, List.set_cons_succ, i64_w, i32_w]
        rfl
      refine one_ (i := 4) (N := some 38) #[true, true, true, true, true, false, true, true, true, true, true, false, false, false, false, false, false, false] rfl rfl (by kernel_rfl) (by decide) (fun K hK => ?_)
      refine goes_ Tryz.func24 (by kernel_rfl) rfl #[.slice Ab Lb.length cb, .agg #[.int .u64 P, .int .i64 m, .int .i64 f, .bool neg, .slice A X.length c, .int .i64 x], .int .u8 ch, .int .i64 k] (by rfl) rfl rfl (by simp only [List.map_toArray, List.map_cons, List.map_nil]; rfl) ?_
      with_reducible refine (HAO.out _ HVR.out).mono ?_
      rintro e w6 ⟨v6, rfl, hcv, hb1⟩
      refine ⟨_, rfl, ?_⟩
      replace HBR := Aside0.mk (below_step HBR.out hb1)
      replace HVR := Aside0.mk (below_step HVR.out hb1)
      replace KXR := Aside0.mk (hp_below KXR.out hb1)
      obtain ⟨q0, q1, q2, q3, q4, q5, _, _, _, _, _, _⟩ := blk6 KXR.out
      have rf := HCF.out _ HVR.out
      have HCV := Aside0.mk hcv
      have HV6 := Aside0.mk (Below.refl w6.heap.size w6)
      clear hb1 hcv
      refine hK.out _ _ ⟨q0, q1, q2, q3, q4, q5, rf⟩ (fun hHeld => ?_)
      clear hK K
      refine norm_ (a' := ?_) ?_ ?_
      rotate_left
      · show Act.put _ (some 38) _ = _
        simp only [Act.put, List.setIfInBounds_toArray, List.set_cons_zero, List.set_cons_succ, i64_w, i32_w]
        rfl
      refine join_ (σ := Unit) 5 #[true, true, true, true, true, true, true, true, true, true, true, true, true, false, false, false, false, false] (fun _ => [(39, .string SC), (45, .string TT), (46, .string SC)]) (fun _ w' => Below w.heap.size w w' ∧ Below w2.heap.size w2 w' ∧ hp w' w.heap.size = some (.cells #[.int .u64 P, .int .i64 m, .int .i64 f, .bool neg, .slice A X.length c, .int .i64 x] 25 (0, 0))) ?_ ?_
      rotate_left
      · intro hCont
        refine two_ (i := 5) (j := 11) (Ni := some 39) (Nj := some 45) #[true, true, true, true, true, true, true, true, true, true, true, false, false, false, false, false, false, false] #[true, true, true, true, true, false, true, true, true, true, true, true, false, false, false, false, false, false] rfl rfl rfl rfl (by kernel_rfl) (by decide) (by decide) (fun K hK => ?_) (fun K hK => ?_)
        · skip
          have hcv := HCV.out _ HV6.out
          refine value_ (w1 := ?_) (v := ?_) (by rfl) rfl ?_ ?_
          rotate_left 2
          · go_simp
            constructor
            · rfl
            · rfl
          clear hcv
          refine hK.out _ _ ⟨hHeld.1, hHeld.2.1, hHeld.2.2.1, hHeld.2.2.2.1, hHeld.2.2.2.2.1, hHeld.2.2.2.2.2.1, hHeld.2.2.2.2.2.2⟩ (fun hHeld => ?_)
          clear hK K
          refine norm_ (a' := ?_) ?_ ?_
          rotate_left
          · show Act.put _ (some 39) _ = _
            simp only [Act.put, List.setIfInBounds_toArray, List.set_cons_zero, List.set_cons_succ, i64_w, i32_w]
            rfl
          refine one_ (i := 11) (N := some 45) #[true, true, true, true, true, true, true, true, true, true, true, true, false, false, false, false, false, false] rfl rfl (by kernel_rfl) (by decide) (fun K hK => ?_)
          refine goes_ Tryz.func14 (by kernel_rfl) rfl #[.agg #[.int .u64 P, .int .i64 m, .int .i64 f, .bool neg, .slice A X.length c, .int .i64 x], .int .u8 ch, .int .i64 k] (by rfl) rfl rfl (by simp only [List.map_toArray, List.map_cons, List.map_nil]; rfl) ?_
          with_reducible refine (HTX.out _ HVR.out).mono ?_
          rintro e w7 ⟨rfl, hb1⟩
          refine ⟨_, rfl, ?_⟩
          replace HBR := Aside0.mk (below_step HBR.out hb1)
          replace HVR := Aside0.mk (below_step HVR.out hb1)
          replace KXR := Aside0.mk (hp_below KXR.out hb1)
          obtain ⟨q0, q1, q2, q3, q4, q5, _, _, _, _, _, _⟩ := blk6 KXR.out
          have rf := HCF.out _ HVR.out
          replace HV6 := Aside0.mk (below_step HV6.out hb1)
          clear hb1
          refine hK.out _ _ ⟨q0, q1, q2, q3, q4, q5, rf⟩ (fun hHeld => ?_)
          clear hK K
          refine norm_ (a' := ?_) ?_ ?_
          rotate_left
          · show Act.put _ (some 45) _ = _
            simp only [Act.put, List.setIfInBounds_toArray, List.set_cons_zero, List.set_cons_succ, i64_w, i32_w]
            rfl
          refine pure_ (i := 12) (N := some 46) (v := ?_) (a' := ?_) #[true, true, true, true, true, true, true, true, true, true, true, true, true, false, false, false, false, false] rfl rfl (by kernel_rfl) (fun _ _ _ h => h) (Or.inl ⟨by rfl, ?_⟩) ?_ ?_
          rotate_left
          · intro w'
            go_simp
            with_reducible rfl
          rotate_left
          · simp only [Act.put, List.setIfInBounds_toArray, List.set_cons_zero, List.set_cons_succ, i64_w, i32_w]
            rfl
          exact norm_ (by simp only [putAll, Act.put, List.setIfInBounds_toArray, List.set_cons_zero, List.set_cons_succ]) (hCont () _ ⟨HBR.out, HVR.out, KXR.out⟩)
        · skip
          refine goes_ Tryz.func14 (by kernel_rfl) rfl #[.agg #[.int .u64 P, .int .i64 m, .int .i64 f, .bool neg, .slice A X.length c, .int .i64 x], .int .u8 ch, .int .i64 k] (by rfl) rfl rfl (by simp only [List.map_toArray, List.map_cons, List.map_nil]; rfl) ?_
          with_reducible refine (HTX.out _ HVR.out).mono ?_
          rintro e w7 ⟨rfl, hb1⟩
          refine ⟨_, rfl, ?_⟩
          replace HBR := Aside0.mk (below_step HBR.out hb1)
          replace HVR := Aside0.mk (below_step HVR.out hb1)
          replace KXR := Aside0.mk (hp_below KXR.out hb1)
          obtain ⟨q0, q1, q2, q3, q4, q5, _, _, _, _, _, _⟩ := blk6 KXR.out
          have rf := HCF.out _ HVR.out
          replace HV6 := Aside0.mk (below_step HV6.out hb1)
          clear hb1
          refine hK.out _ _ ⟨q0, q1, q2, q3, q4, q5, rf⟩ (fun hHeld => ?_)
          clear hK K
          refine norm_ (a' := ?_) ?_ ?_
          rotate_left
          · show Act.put _ (some 45) _ = _
            simp only [Act.put, List.setIfInBounds_toArray, List.set_cons_zero, List.set_cons_succ, i64_w, i32_w]
            rfl
          refine pure_ (i := 12) (N := some 46) (v := ?_) (a' := ?_) #[true, true, true, true, true, false, true, true, true, true, true, true, true, false, false, false, false, false] rfl rfl (by kernel_rfl) (fun _ _ _ h => h) (Or.inl ⟨by rfl, ?_⟩) ?_ ?_
          rotate_left
          · intro w'
            go_simp
            with_reducible rfl
          rotate_left
          · simp only [Act.put, List.setIfInBounds_toArray, List.set_cons_zero, List.set_cons_succ, i64_w, i32_w]
            rfl
          refine one_ (i := 5) (N := some 39) #[true, true, true, true, true, true, true, true, true, true, true, true, true, false, false, false, false, false] rfl rfl (by kernel_rfl) (by decide) (fun K hK => ?_)
          have hcv := HCV.out _ HV6.out
          refine value_ (w1 := ?_) (v := ?_) (by rfl) rfl ?_ ?_
          rotate_left 2
          · go_simp
            constructor
            · rfl
            · rfl
          clear hcv
          refine hK.out _ _ ⟨hHeld.1, hHeld.2.1, hHeld.2.2.1, hHeld.2.2.2.1, hHeld.2.2.2.2.1, hHeld.2.2.2.2.2.1, hHeld.2.2.2.2.2.2⟩ (fun hHeld => ?_)
          clear hK K
          refine norm_ (a' := ?_) ?_ ?_
          rotate_left
          · show Act.put _ (some 39) _ = _
            simp only [Act.put, List.setIfInBounds_toArray, List.set_cons_zero, List.set_cons_succ, i64_w, i32_w]
            rfl
          exact norm_ (by simp only [putAll, Act.put, List.setIfInBounds_toArray, List.set_cons_zero, List.set_cons_succ]) (hCont () _ ⟨HBR.out, HVR.out, KXR.out⟩)
      rintro ⟨⟩ w8 ⟨hb0, hv0, hkx⟩
      have hHeld := blk6 hkx
      have rf := HCF.out _ hv0
      have hHeld : _ ∧ _ ∧ _ ∧ _ ∧ _ ∧ _ ∧ _ := ⟨hHeld.1, hHeld.2.1, hHeld.2.2.1, hHeld.2.2.2.1, hHeld.2.2.2.2.1, hHeld.2.2.2.2.2.1, rf⟩
      clear HBR HVR KXR HCV HV6 rf
      have HBR := Aside0.mk hb0
      have HVR := Aside0.mk hv0
      have KXR := Aside0.mk hkx
      clear hb0 hv0 hkx
      refine norm_ (a' := ?_) ?_ ?_
      rotate_left
      · simp only [putAll, Act.put, List.setIfInBounds_toArray, List.set_cons_zero, List.set_cons_succ]
        rfl
      refine pure_ (i := 13) (N := some 47) (v := ?_) (a' := ?_) #[true, true, true, true, true, true, true, true, true, true, true, true, true, true, false, false, false, false] rfl rfl (by kernel_rfl) (fun _ _ _ h => h) (Or.inl ⟨by rfl, ?_⟩) ?_ ?_
      rotate_left
      · intro w'
        go_simp
        with_reducible rfl
      rotate_left
      · simp only [Act.put, List.setIfInBounds_toArray, List.set_cons_zero, List.set_cons_succ, i64_w, i32_w]
        rfl
      refine pure_ (i := 14) (N := some 48) (v := ?_) (a' := ?_) #[true, true, true, true, true, true, true, true, true, true, true, true, true, true, true, false, false, false] rfl rfl (by kernel_rfl) (fun _ _ _ h => h) (Or.inl ⟨by rfl, ?_⟩) ?_ ?_
      rotate_left
      · intro w'
        go_simp
        with_reducible rfl
      rotate_left
      · simp only [Act.put, List.setIfInBounds_toArray, List.set_cons_zero, List.set_cons_succ, i64_w, i32_w]
        rfl
      refine one_ (i := 15) (N := some 49) #[true, true, true, true, true, true, true, true, true, true, true, true, true, true, true, true, false, false] rfl rfl (by kernel_rfl) (by decide) (fun K hK => ?_)
      refine goes_ Tryz.func20 (by kernel_rfl) rfl #[] (by rfl) rfl rfl (by simp only [List.map_toArray, List.map_cons, List.map_nil]) ?_
      with_reducible refine (HAV.out _ HVR.out).mono ?_
      rintro e w9 ⟨rfl, hb1⟩
      refine ⟨_, rfl, ?_⟩
      replace HBR := Aside0.mk (below_step HBR.out hb1)
      replace HVR := Aside0.mk (below_step HVR.out hb1)
      replace KXR := Aside0.mk (hp_below KXR.out hb1)
      obtain ⟨q0, q1, q2, q3, q4, q5, _, _, _, _, _, _⟩ := blk6 KXR.out
      have rf := HCF.out _ HVR.out
      clear hb1
      refine hK.out _ _ ⟨q0, q1, q2, q3, q4, q5, rf⟩ (fun hHeld => ?_)
      clear hK K
      refine norm_ (a' := ?_) ?_ ?_
      rotate_left
      · show Act.put _ (some 49) _ = _
        simp only [Act.put, List.setIfInBounds_toArray, List.set_cons_zero, List.set_cons_succ, i64_w, i32_w]
        rfl
      refine pure_ (i := 16) (N := some 50) (v := ?_) (a' := ?_) #[true, true, true, true, true, true, true, true, true, true, true, true, true, true, true, true, true, false] rfl rfl (by kernel_rfl) (fun _ _ _ h => h) (Or.inl ⟨by rfl, ?_⟩) ?_ ?_
      rotate_left
      · intro w'
        go_simp
        with_reducible rfl
      rotate_left
      · simp only [Act.put, List.setIfInBounds_toArray, List.set_cons_zero, List.set_cons_succ, i64_w, i32_w]
        rfl
      refine pure_ (i := 17) (N := some 8) (v := ?_) (a' := ?_) #[true, true, true, true, true, true, true, true, true, true, true, true, true, true, true, true, true, true] rfl rfl (by kernel_rfl) (fun _ _ _ h => h) (Or.inl ⟨by rfl, ?_⟩) ?_ ?_
      rotate_left
      · intro w'
        go_simp
        with_reducible rfl
      rotate_left
      · simp only [Act.put, List.setIfInBounds_toArray, List.set_cons_zero, List.set_cons_succ, i64_w, i32_w]
        rfl
      refine done_ (by kernel_rfl) ?_
      go_wp2_with (fail)
      go_ret
      exact ⟨rfl, HBR.out⟩
  · have HPL1 : Aside0 (Calls Tryz.prog 21 #[.agg #[.int .u64 P, .int .i64 m, .int .i64 f, .bool neg, .slice A X.length c, .int .i64 x], .int .u64 200, .int .i64 300] w2 fun e w' => e = .returned (.bool false) ∧ Below w2.heap.size w2 w') := ⟨HPL.out.mono (by
      rintro e w' ⟨r, rfl, h, hb⟩
      refine ⟨?_, hb⟩
      cases r with
      | false => rfl
      | true => exact absurd (h.1 rfl) hok)⟩
    clear HPL hok
    go_enter Tryz.func9, Tryz.ntmps9
    go_wp2_with ((fail_if_success go_at_call 21); go_in)
    rw [← hw2]
    clear hw2
    refine HPL1.out.mono ?_
    rintro e w3 ⟨rfl, hb3⟩
    have HB3 := Aside0.mk (below_step HB0.out hb3)
    clear hb3
    go_wp2_with (fail)
    go_ret
    exact ⟨rfl, HB3.out⟩
end Go.Proofs.YtfnknldbjckgoaaGreatDoor.fnAppend
