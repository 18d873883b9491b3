/-
  FnHexRounded holds for every input.
-/
import Derived.Test.YtfnknldbjckgoaaGreatDoorSpX
import Derived.Test.YtfnknldbjckgoaaGreatDoorOddX
import Derived.Test.YtfnknldbjckgoaaGreatDoorGx1
import Derived.Test.YtfnknldbjckgoaaGreatDoorRoundS
import Derived.Test.YtfnknldbjckgoaaGreatDoorAppX
import Derived.Test.YtfnknldbjckgoaaGreatDoorGrea
namespace Go.Proofs.YtfnknldbjckgoaaGreatDoor.fnHexRounded
open Go.RowKit Go.Proofs.YtfnknldbjckgoaaGreatDoorW.PrintWords Go.Proofs.YtfnknldbjckgoaaGreatDoorW.PrintLast Go.Proofs.YtfnknldbjckgoaaGreatDoorW.PrintMore Go.Proofs.YtfnknldbjckgoaaGreatDoor.Dig Go.Proofs.YtfnknldbjckgoaaGreatDoor.Sp
set_option linter.unusedVariables false
set_option linter.unusedSimpArgs false
theorem pwb {w w' : World} (h : Pw w) (hb : Below w.heap.size w w') : Pw w' := ((Go.Lib.tabBelow_of_tabIs h).on hb).here
theorem tbb {w w' : World} (h : Tb w) (hb : Below w.heap.size w w') : Tb w' := h.kept (Kept.of_below (S := fun _ => False) hb) (fun h => h)
set_option maxHeartbeats 6400000 in
set_option maxRecDepth 100000 in
theorem walk (p m f : Int) (neg : Bool) (v : Value) (X : List Int) (x : Int) (n : Int) (hn : (Lit.int .u8 n).wf = true) (w : World) (hv : InInts .u64 w v X) (hp : (Lit.int .u64 p).wf = true) (hm : (Lit.int .i64 m).wf = true) (hf : (Lit.int .i64 f).wf = true) (hx : (Lit.int .i64 x).wf = true) (hL : Leaf w) (hT : Pw w) (hTb : Tb w) :
    Calls Tryz.prog 4 #[.agg #[.int .u64 p, .int .i64 m, .int .i64 f, .bool neg, v, .int .i64 x], .int .u8 n] w fun e w' => e = .returned (.bool true) ∧ Below w.heap.size w w' := by
  have hws := ws_in hv
  obtain ⟨A, c, rfl, _⟩ := hv
  have hpp := wf_u64 hp
  have hn2 := wf_u8 hn
  clear hn
  have hpu := hpp
  clear hp hm hf hx
  obtain ⟨P, rfl⟩ := Int.eq_ofNat_of_zero_le hpp.1
  have hu := Tryz.underlying25
  have HB00 := Aside0.mk (below_alloc (Below.refl w.heap.size w) (.cells #[.int .u64 P, .int .i64 m, .int .i64 f, .bool neg, .slice A X.length c, .int .i64 x] 25))
  have HB0 := Aside0.mk (below_alloc HB00.out (.cells #[.int .u64 P, .int .i64 m, .int .i64 f, .bool neg, .slice A X.length c, .int .i64 x] 25))
  have KX := Aside0.mk (show hp ((w.alloc (.cells #[.int .u64 P, .int .i64 m, .int .i64 f, .bool neg, .slice A X.length c, .int .i64 x] 25)).alloc (.cells #[.int .u64 P, .int .i64 m, .int .i64 f, .bool neg, .slice A X.length c, .int .i64 x] 25)) w.heap.size = some (.cells #[.int .u64 P, .int .i64 m, .int .i64 f, .bool neg, .slice A X.length c, .int .i64 x] 25 (0, 0)) from (by simp (disch := first | omega | (simp; omega) | (simp; done) | fail) [hp_new, hp_old, hp_here, hp_other, setObj_cells, hp_drew, hp_drewN]))
  have HX := Aside0.mk (hws.below HB0.out)
  have HTB := Aside0.mk (tbb hTb HB0.out)
  have HPW := Aside0.mk (pwb hT HB0.out)
  have HLF := Aside0.mk (hL.below HB0.out)
  clear hws hL hT hTb
  by_cases hbb : 2147483647 < X.length
  · go_enter Tryz.func4, Tryz.ntmps4
    go_wp2_with ((fail_if_success go_at_call 11); go_in)
    go_ret
    exact ⟨rfl, HB0.out⟩
  obtain ⟨w2, hw2⟩ : ∃ w2, w2 = (w.alloc (.cells #[.int .u64 P, .int .i64 m, .int .i64 f, .bool neg, .slice A X.length c, .int .i64 x] 25)).alloc (.cells #[.int .u64 P, .int .i64 m, .int .i64 f, .bool neg, .slice A X.length c, .int .i64 x] 25) := ⟨_, rfl⟩
  rw [← hw2] at HB0 KX HX HTB HPW HLF
  have HPL := Aside0.mk (plainly_m P m f x neg A c X w2 HX.out hpp.1)
  have HBD := Aside0.mk (below_drew1 HB0.out)
  obtain ⟨c0, c1, c2, c3, c4, c5, f0, f1, f2, f3, f4, f5⟩ := blk6 KX.out
  have l1 := hp_lt KX.out
  by_cases hok : f = 1 ∧ RealOk 200 300 P m 1 x X
  · obtain ⟨rfl, hr⟩ := hok
    have HRO := Aside0.mk hr
    obtain ⟨⟨q1, q2, q3, q4⟩, hq⟩ := hr
    have hq2 : (X.length : Int) ≤ ((P : Int) + 63) / 64 ∧ 0 < ev BW X ∧ (∃ b : Nat, Bits (ev BW X) b ∧ (b : Int) ≤ P) ∧ -300 ≤ x ∧ x ≤ 300 := by
      rcases hq with (h | h) | ⟨_, h⟩
      · omega
      · omega
      · exact h
    obtain ⟨hlen, hev, ⟨b, hb, hbP⟩, hx0, hx1⟩ := hq2
    obtain ⟨vN, hvN⟩ : ∃ vN : Nat, ev BW X = (vN : Int) := Int.eq_ofNat_of_zero_le (Int.le_of_lt hev)
    rw [hvN] at hb hev
    have hPw : IntKind.i64.wrap (P : Int) = (P : Int) := IntWalk.i64_in _ (by omega)
    have hbP2 : b ≤ P := by omega
    have hP2 : P ≤ 200 := by omega
    have hvp : 0 < vN := by omega
    have HLX : Aside0 (X.length ≤ 10000) := ⟨by omega⟩
    have HPL1 : Aside0 (Calls Tryz.prog 11 #[.agg #[.int .u64 P, .int .i64 m, .int .i64 1, .bool neg, .slice A X.length c, .int .i64 x]] w2 fun e w' => e = .returned (.bool true) ∧ Below w2.heap.size w2 w') := ⟨HPL.out.mono (by
      rintro e w' ⟨r, rfl, h, hb⟩
      obtain rfl : r = true := h.2 ⟨rfl, HRO.out⟩
      exact ⟨rfl, hb⟩)⟩
    obtain ⟨k1, hk1⟩ := Int.eq_ofNat_of_zero_le (a := n.tmod 21) (Int.tmod_nonneg 21 hn2.1)
    have hk9 : k1 ≤ 20 := by rw [Int.tmod_eq_emod_of_nonneg hn2.1] at hk1; omega
    obtain ⟨Q, b', z, o, hQ, hQ0, hQb, hb', hod, hq9, hTO0⟩ := hex_round neg m vN b (4 * k1 + 1) x hb hvp (by omega)
    have HOO := Aside0.mk hod
    have hzb := hod.lt
    clear hod
    obtain ⟨Y, hY⟩ : ∃ Y : Int, Y = x + ((b - (4 * k1 + 1) : Nat) : Int) := ⟨_, rfl⟩
    rw [← hY] at hTO0
    have HTO := Aside0.mk hTO0
    clear hTO0
    obtain ⟨AC, hAC⟩ : ∃ AC, AC = rside neg m (vN : Int) (b - (4 * k1 + 1)) false := ⟨_, rfl⟩
    obtain ⟨TT, hTT⟩ : ∃ TT, TT = strOfNums (sgn1 neg ++ fmtXT neg m vN b (4 * k1 + 1) x) := ⟨_, rfl⟩
    have HTX : Aside0 (∀ W, Below w2.heap.size w2 W → Calls Tryz.prog 14 #[.agg #[.int .u64 P, .int .i64 m, .int .i64 1, .bool neg, .slice A X.length c, .int .i64 x], .int .u8 120, .int .i64 (k1 : Int)] W fun e w' => e = .returned (.string TT) ∧ Below W.heap.size W w') := ⟨fun W hW => by
      rw [hTT]
      refine textF_c P b m 120 (k1 : Int) neg A X.length c x (vN : Int) X _ W (HX.out.below hW) HLX.out hvN hev hb hbP2 (by omega) (by omega) (by omega) (by omega) ?_
      intro w0 W0 W1 g vv hb0 hO hbu
      have := appX_c g P vN b (4 * k1 + 1) k1 m x (k1 : Int) neg w0 W0 W1 vv [] hO hvp hb hbP2 (by omega) (by omega) (by omega) rfl (by omega) (.inr rfl) hbu (by simp) (pwb (pwb HPW.out hW) hb0) (tbb (tbb HTB.out hW) hb0)
      rwa [List.nil_append] at this⟩
    have HOR : Aside0 (∀ W, Below w2.heap.size w2 W → Calls Tryz.prog 12 #[.agg #[.int .u64 P, .int .i64 m, .int .i64 1, .bool neg, .slice A X.length c, .int .i64 x]] W fun e w' => ∃ A' m' c', e = .returned (.agg #[.bool neg, .slice A' m' c', .int .i64 x]) ∧ Dg w' (.slice A' m' c') (vN : Int) ∧ Below W.heap.size W w') := ⟨fun W hW => by
      have := ofReal_c P m neg A X.length c x X W (HX.out.below hW) (Nat.le_trans HLX.out (by omega))
      rwa [hvN] at this⟩
    have HORV : Aside0 (∀ W β, Below w2.heap.size w2 W → β < W.heap.size → Calls Tryz.prog 12 #[.agg #[.int .u64 P, .int .i64 m, .int .i64 1, .bool neg, .slice A X.length c, .int .i64 x]] W fun e w' => ∃ A' m' c', e = .returned (.agg #[.bool neg, .slice A' m' c', .int .i64 x]) ∧ Dq w' (fun k => k ≠ β) (.slice A' m' c') (vN : Int) ∧ Below W.heap.size W w') := ⟨fun W β hW hβ => by
      refine (ofRealV_c P m neg A X.length c x X W (HX.out.below hW) (Nat.le_trans HLX.out (by omega))).mono ?_
      rintro e w' ⟨A', m', c', h1, ⟨r, h2, h3, h4⟩, h5⟩
      exact ⟨A', m', c', h1, ⟨r, Kd.V_mono h2 (fun k hk => by omega), h3, by rw [h4, hvN]⟩, h5⟩⟩
    have hvL : (vN : Int) + 1 < Lim := by
      have h1 : (vN : Int) + 1 < 2 ^ (b + 1) := by have := hb.2.1; rw [Int.pow_succ]; omega
      exact lt_Lim (b + 1) (by omega) (by omega)
    have hQL : (Q : Int) < Lim := lt_Lim b' (by have := hQb.2.1; omega) (by omega)
    have hoL : (o : Int) < Lim := lt_Lim (b' - z) (by have := HOO.out.bits.2.1; omega) (by omega)
    have hpw : wrap64 (1 + wrap64 (4 * (k1 : Int))) = ((4 * k1 + 1 : Nat) : Int) := by
      rw [w64 (i := 4 * (k1 : Int)) (by omega) (by omega), w64 (by omega) (by omega)]
      omega
    have HRD : Aside0 (∀ W A' m' c', Dg W (.slice A' m' c') (vN : Int) → Calls Tryz.prog 17 #[.agg #[.bool neg, .slice A' m' c', .int .i64 x], .int .i64 (wrap64 (1 + wrap64 (4 * (k1 : Int)))), .int .i64 m] W fun e w' => ∃ A' m' c', e = .returned (.tuple #[.agg #[.bool neg, .slice A' m' c', .int .i64 Y], .int .i64 AC]) ∧ Dg w' (.slice A' m' c') (Q : Int) ∧ Below W.heap.size W w') := ⟨fun W A' m' c' hd => by
      rw [hpw, hY, hAC, ← hQ]
      exact roundS_c neg A' m' c' (vN : Int) x m b (4 * k1 + 1) W hd hvL hb (by omega) (by omega) (by omega)⟩
    have HRDV : Aside0 (∀ W β A' m' c', β < W.heap.size → Dq W (fun k => k ≠ β) (.slice A' m' c') (vN : Int) → Calls Tryz.prog 17 #[.agg #[.bool neg, .slice A' m' c', .int .i64 x], .int .i64 (wrap64 (1 + wrap64 (4 * (k1 : Int)))), .int .i64 m] W fun e w' => ∃ A' m' c', e = .returned (.tuple #[.agg #[.bool neg, .slice A' m' c', .int .i64 Y], .int .i64 AC]) ∧ Dq w' (fun k => k ≠ β) (.slice A' m' c') (Q : Int) ∧ Below W.heap.size W w') := ⟨fun W β A' m' c' hβ hd => by
      rw [hpw, hY, hAC, ← hQ]
      obtain ⟨r, h2, h3⟩ := hd
      refine (roundQ_c neg A' m' c' (vN : Int) x m b (4 * k1 + 1) (fun k => k ≠ β ∧ k < W.heap.size) W ⟨r, Kd.V_bound h2, h3⟩ (fun k hk => hk.2) hvL hb (by omega) (by omega) (by omega)).mono ?_
      rintro e w' ⟨A', m', c', h1, h2, h3⟩
      exact ⟨A', m', c', h1, h2.mono (fun k hk => by rcases hk with hk | hk; exact hk.1; omega), h3⟩⟩
    have HOD : Aside0 (∀ W A' m' c', Dg W (.slice A' m' c') (Q : Int) → Calls Tryz.prog 13 #[.slice A' m' c'] W fun e w' => ∃ A2 m2 c2, e = .returned (.tuple #[.slice A2 m2 c2, .int .i64 z]) ∧ Dg w' (.slice A2 m2 c2) (o : Int) ∧ Below W.heap.size W w') := ⟨fun W A' m' c' hd => by
      rw [HOO.out.eq]
      exact odd_c A' m' c' (Q : Int) z W hd hQL HOO.out.tz (by omega)⟩
    have HHP : Aside0 (∀ W A' m' c', Dg W (.slice A' m' c') (o : Int) → Calls Tryz.prog 15 #[.agg #[.bool neg, .slice A' m' c', .int .i64 (wrap64 (Y + (z : Int)))], .int .i64 (k1 : Int)] W fun e w' => e = .returned (.string TT) ∧ Below W.heap.size W w') := ⟨fun W A' m' c' hd => by
      rw [hTT, HTO.out]
      have H1 : Aside0 (wrap64 (Y + (z : Int)) = Y + (z : Int)) := ⟨w64 (by omega) (by omega)⟩
      rw [H1.out]
      exact hexPoint_c neg A' m' c' o (b' - z) k1 (Y + (z : Int)) W hd HOO.out.pos HOO.out.bits (by omega) (by omega) (by omega)⟩
    have hku : IntKind.u8.wrap (k1 : Int) = (k1 : Int) := by rw [IntKind.wrap_u8']; omega
    have hki : IntKind.i64.wrap (k1 : Int) = (k1 : Int) := IntWalk.i64_in _ (by omega)
    clear hk9 hQ hQ0 hQb hb' hq9 hzb HOO HTO hY hAC hTT hvL hQL hoL hpw
    clear HPL HRO hq hlen hev hb hbP hx0 hx1 hvN hbP2 hP2 hvp
    go_enter Tryz.func4, Tryz.ntmps4
    go_wp2_with ((fail_if_success go_at_call 11); go_in)
    rw [← hw2]
    clear hw2
    refine HPL1.out.mono ?_
    rintro e w3 ⟨rfl, hb3⟩
    have HB3 := Aside0.mk (below_step HB0.out hb3)
    have HV3 := Aside0.mk hb3
    have KX3 := Aside0.mk (hp_below KX.out hb3)
    clear hb3 c0 c1 c2 c3 c4 c5 f0 f1 f2 f3 f4 f5 l1
    obtain ⟨c0, c1, c2, c3, c4, c5, f0, f1, f2, f3, f4, f5⟩ := blk6 KX3.out
    have l1 := hp_lt KX3.out
    go_wp2_with (fail)
    have HBR := Aside0.mk (below_drew1 HB3.out)
    have HVR := Aside0.mk (below_drew1 HV3.out)
    have KXR := Aside0.mk (show hp w3.drew w.heap.size = some (.cells #[.int .u64 P, .int .i64 m, .int .i64 1, .bool neg, .slice A X.length c, .int .i64 x] 25 (0, 0)) from KX3.out)
    refine start_ (n := 14) (S := fun w' => w'.cell? ⟨w.heap.size, 0, none⟩ = some (.int .u64 P) ∧ w'.cell? ⟨w.heap.size, 1, none⟩ = some (.int .i64 m) ∧ w'.cell? ⟨w.heap.size, 2, none⟩ = some (.int .i64 1) ∧ w'.cell? ⟨w.heap.size, 3, none⟩ = some (.bool neg) ∧ w'.cell? ⟨w.heap.size, 4, none⟩ = some (.slice A X.length c) ∧ w'.cell? ⟨w.heap.size, 5, none⟩ = some (.int .i64 x)) (ds := [12]) #[false, false, false, false, false, false, false, false, false, false, false, false, false, false] (by kernel_rfl) rfl rfl ⟨(by go_simp), (by go_simp), (by go_simp), (by go_simp), (by go_simp), (by go_simp)⟩ (fun hHeld => ?_)
    refine pure_ (i := 2) (N := some 22) (v := ?_) (a' := ?_) #[false, false, true, false, false, false, false, false, false, false, false, false, false, false] rfl rfl (by kernel_rfl) (fun _ _ _ h => h) (Or.inl ⟨by rfl, ?_⟩) ?_ ?_
    rotate_left
    · intro w'
      go_simp
      with_reducible rfl
    rotate_left
    · simp only [Act.put, List.setIfInBounds_toArray, List.set_cons_zero, List.set_cons_succ, i64_w, i32_w]
      rfl
    refine pure_ (i := 3) (N := some 23) (v := ?_) (a' := ?_) #[false, false, true, true, false, false, false, false, false, false, false, false, false, false] rfl rfl (by kernel_rfl) (fun _ _ _ h => h) (Or.inl ⟨by rfl, ?_⟩) ?_ ?_
    rotate_left
    · intro w'
      go_simp
      with_reducible rfl
    rotate_left
    · simp only [Act.put, List.setIfInBounds_toArray, List.set_cons_zero, List.set_cons_succ, i64_w, i32_w]
      rfl
    refine pure_ (i := 4) (N := some 24) (v := ?_) (a' := ?_) #[false, false, true, true, true, false, false, false, false, false, false, false, false, false] rfl rfl (by kernel_rfl) (fun _ _ _ h => h) (Or.inl ⟨by rfl, ?_⟩) ?_ ?_
    rotate_left
    · intro w'
      go_simp
      with_reducible rfl
    rotate_left
    · simp only [Act.put, List.setIfInBounds_toArray, List.set_cons_zero, List.set_cons_succ, i64_w, i32_w]
      rfl
    refine pure_ (i := 5) (N := some 25) (v := ?_) (a' := ?_) #[false, false, true, true, true, true, false, false, false, false, false, false, false, false] rfl rfl (by kernel_rfl) (fun _ _ _ h => h) (Or.inl ⟨by rfl, ?_⟩) ?_ ?_
    rotate_left
    · intro w'
      go_simp
      with_reducible rfl
    rotate_left
    · simp only [Act.put, List.setIfInBounds_toArray, List.set_cons_zero, List.set_cons_succ, i64_w, i32_w]
      rfl
    refine take_ (i := 0) (N := some 20) (v := ?_) (a' := ?_) #[true, false, true, true, true, true, false, false, false, false, false, false, false, false] rfl rfl (by kernel_rfl) (fun _ _ _ h => h) (Or.inl ⟨by rfl, ?_⟩) hHeld ?_ ?_
    rotate_left
    · rintro w' ⟨s0, s1, s2, s3, s4, s5⟩
      go_simp
      with_reducible rfl
    rotate_left
    · simp only [Act.put, List.setIfInBounds_toArray, List.set_cons_zero, List.set_cons_succ, i64_w, i32_w]
      rfl
    refine take_ (i := 6) (N := some 26) (v := ?_) (a' := ?_) #[true, false, true, true, true, true, true, false, false, false, false, false, false, false] rfl rfl (by kernel_rfl) (fun _ _ _ h => h) (Or.inl ⟨by rfl, ?_⟩) hHeld ?_ ?_
    rotate_left
    · rintro w' ⟨s0, s1, s2, s3, s4, s5⟩
      go_simp
      with_reducible rfl
    rotate_left
    · simp only [Act.put, List.setIfInBounds_toArray, List.set_cons_zero, List.set_cons_succ, i64_w, i32_w]
      rfl
    refine join_ (σ := Option Addr × Nat × Nat × Option Addr × Nat × Nat × Nat) 2 #[true, true, true, true, true, true, true, true, true, true, true, true, false, false] (fun s => [(21, .agg #[.bool neg, .slice s.1 s.2.1 s.2.2.1, .int .i64 x]), (27, .tuple #[.agg #[.bool neg, .slice s.2.2.2.1 s.2.2.2.2.1 s.2.2.2.2.2.1, .int .i64 Y], .int .i64 AC]), (19, .tuple #[.agg #[.bool neg, .slice s.2.2.2.1 s.2.2.2.2.1 s.2.2.2.2.2.1, .int .i64 Y], .int .i64 AC]), (28, .agg #[.bool neg, .slice s.2.2.2.1 s.2.2.2.2.1 s.2.2.2.2.2.1, .int .i64 Y]), (29, .int .i64 AC), (6, .pointer (some ⟨s.2.2.2.2.2.2, 0, none⟩))]) (fun s w' => Dq w' (fun k => k ≠ s.2.2.2.2.2.2) (.slice s.2.2.2.1 s.2.2.2.2.1 s.2.2.2.2.2.1) (Q : Int) ∧ hp w' s.2.2.2.2.2.2 = some (.cells #[.bool false, .slice none 0 0, .int .i64 0] 30 (0, 0)) ∧ w2.heap.size ≤ s.2.2.2.2.2.2 ∧ Below w.heap.size w w' ∧ Below w2.heap.size w2 w' ∧ hp w' w.heap.size = some (.cells #[.int .u64 P, .int .i64 m, .int .i64 1, .bool neg, .slice A X.length c, .int .i64 x] 25 (0, 0))) ?_ ?_
    rotate_left
    · intro hCont
      refine two_ (i := 1) (j := 11) (Ni := some 21) (Nj := some 6) #[true, true, true, true, true, true, true, false, false, false, false, false, false, false] #[true, false, true, true, true, true, true, false, false, false, false, true, false, false] rfl rfl rfl rfl (by kernel_rfl) (by decide) (by decide) (fun K hK => ?_) (fun K hK => ?_)
      · skip
        refine goes_ Tryz.func12 (by kernel_rfl) rfl #[.agg #[.int .u64 P, .int .i64 m, .int .i64 1, .bool neg, .slice A X.length c, .int .i64 x]] (by rfl) rfl rfl (by simp only [List.map_toArray, List.map_cons, List.map_nil]; rfl) ?_
        with_reducible refine (HOR.out _ HVR.out).mono ?_
        rintro e wa ⟨A5, m5, k5, rfl, hd, hb1⟩
        refine ⟨_, rfl, ?_⟩
        have HDA := Aside0.mk hd
        clear hd
        replace HBR := Aside0.mk (below_step HBR.out hb1)
        replace HVR := Aside0.mk (below_step HVR.out hb1)
        replace KXR := Aside0.mk (hp_below KXR.out hb1)
        obtain ⟨q0, q1, q2, q3, q4, q5, _, _, _, _, _, _⟩ := blk6 KXR.out
        clear hb1
        refine hK.out _ _ ⟨q0, q1, q2, q3, q4, q5⟩ (fun hHeld => ?_)
        clear hK K
        refine norm_ (a' := ?_) ?_ ?_
        rotate_left
        · show Act.put _ (some 21) _ = _
          simp only [Act.put, List.setIfInBounds_toArray, List.set_cons_zero, List.set_cons_succ, i64_w, i32_w]
          rfl
        refine two_ (i := 7) (j := 11) (Ni := some 27) (Nj := some 6) #[true, true, true, true, true, true, true, true, false, false, false, false, false, false] #[true, true, true, true, true, true, true, false, false, false, false, true, false, false] rfl rfl rfl rfl (by kernel_rfl) (by decide) (by decide) (fun K hK => ?_) (fun K hK => ?_)
        · skip
          refine goes_ Tryz.func17 (by kernel_rfl) rfl #[.agg #[.bool neg, .slice A5 m5 k5, .int .i64 x], .int .i64 (wrap64 (1 + wrap64 (4 * (k1 : Int)))), .int .i64 m] (by rfl) rfl rfl (by simp only [List.map_toArray, List.map_cons, List.map_nil]; rfl) ?_
          with_reducible refine (HRD.out _ A5 m5 k5 HDA.out).mono ?_
          rintro e wb ⟨A6, m6, k6, rfl, hd, hb1⟩
          refine ⟨_, rfl, ?_⟩
          have HDB := Aside0.mk hd
          clear hd HDA
          replace HBR := Aside0.mk (below_step HBR.out hb1)
          replace HVR := Aside0.mk (below_step HVR.out hb1)
          replace KXR := Aside0.mk (hp_below KXR.out hb1)
          obtain ⟨q0, q1, q2, q3, q4, q5, _, _, _, _, _, _⟩ := blk6 KXR.out
          clear hb1
          refine hK.out _ _ ⟨q0, q1, q2, q3, q4, q5⟩ (fun hHeld => ?_)
          clear hK K
          refine norm_ (a' := ?_) ?_ ?_
          rotate_left
          · show Act.put _ (some 27) _ = _
            simp only [Act.put, List.setIfInBounds_toArray, List.set_cons_zero, List.set_cons_succ, i64_w, i32_w]
            rfl
          refine pure_ (i := 8) (N := some 19) (v := ?_) (a' := ?_) #[true, true, true, true, true, true, true, true, true, false, false, false, false, false] rfl rfl (by kernel_rfl) (fun _ _ _ h => h) (Or.inl ⟨by rfl, ?_⟩) ?_ ?_
          rotate_left
          · intro w'
            go_simp
            with_reducible rfl
          rotate_left
          · simp only [Act.put, List.setIfInBounds_toArray, List.set_cons_zero, List.set_cons_succ, i64_w, i32_w]
            rfl
          refine pure_ (i := 9) (N := some 28) (v := ?_) (a' := ?_) #[true, true, true, true, true, true, true, true, true, true, false, false, false, false] rfl rfl (by kernel_rfl) (fun _ _ _ h => h) (Or.inl ⟨by rfl, ?_⟩) ?_ ?_
          rotate_left
          · intro w'
            go_simp
            with_reducible rfl
          rotate_left
          · simp only [Act.put, List.setIfInBounds_toArray, List.set_cons_zero, List.set_cons_succ, i64_w, i32_w]
            rfl
          refine pure_ (i := 10) (N := some 29) (v := ?_) (a' := ?_) #[true, true, true, true, true, true, true, true, true, true, true, false, false, false] rfl rfl (by kernel_rfl) (fun _ _ _ h => h) (Or.inl ⟨by rfl, ?_⟩) ?_ ?_
          rotate_left
          · intro w'
            go_simp
            with_reducible rfl
          rotate_left
          · simp only [Act.put, List.setIfInBounds_toArray, List.set_cons_zero, List.set_cons_succ, i64_w, i32_w]
            rfl
          refine one_ (i := 11) (N := some 6) #[true, true, true, true, true, true, true, true, true, true, true, true, false, false] rfl rfl (by kernel_rfl) (by decide) (fun K hK => ?_)
          refine value_ (w1 := ?_) (v := ?_) (by rfl) rfl ?_ ?_
          rotate_left 2
          · go_simp
            constructor
            · rfl
            · rfl
          have hb1 : Below wb.heap.size wb ((wb.alloc (.cells #[.bool false, .slice none 0 0, .int .i64 0] 30))) := below_alloc (Below.refl _ _) _
          have KBR : Aside0 (w2.heap.size ≤ wb.heap.size) := ⟨HVR.out.size⟩
          have KDR := Aside0.mk (show hp ((wb.alloc (.cells #[.bool false, .slice none 0 0, .int .i64 0] 30))) wb.heap.size = some (.cells #[.bool false, .slice none 0 0, .int .i64 0] 30 (0, 0)) from hp_new wb _ _ rfl)
          replace HDB := Aside0.mk ((HDB.out.dq.mono (fun k hk => Nat.ne_of_lt hk)).below hb1)
          replace HBR := Aside0.mk (below_step HBR.out hb1)
          replace HVR := Aside0.mk (below_step HVR.out hb1)
          replace KXR := Aside0.mk (hp_below KXR.out hb1)
          obtain ⟨q0, q1, q2, q3, q4, q5, _, _, _, _, _, _⟩ := blk6 KXR.out
          clear hb1
          refine hK.out _ _ ⟨q0, q1, q2, q3, q4, q5⟩ (fun hHeld => ?_)
          clear hK K
          refine norm_ (a' := ?_) ?_ ?_
          rotate_left
          · show Act.put _ (some 6) _ = _
            simp only [Act.put, List.setIfInBounds_toArray, List.set_cons_zero, List.set_cons_succ, i64_w, i32_w]
            rfl
          exact norm_ (by simp only [putAll, Act.put, List.setIfInBounds_toArray, List.set_cons_zero, List.set_cons_succ]) (hCont (A5, m5, k5, A6, m6, k6, wb.heap.size) _ ⟨HDB.out, KDR.out, KBR.out, HBR.out, HVR.out, KXR.out⟩)
        · skip
          refine value_ (w1 := ?_) (v := ?_) (by rfl) rfl ?_ ?_
          rotate_left 2
          · go_simp
            constructor
            · rfl
            · rfl
          have hb1 : Below wa.heap.size wa ((wa.alloc (.cells #[.bool false, .slice none 0 0, .int .i64 0] 30))) := below_alloc (Below.refl _ _) _
          have KBR : Aside0 (w2.heap.size ≤ wa.heap.size) := ⟨HVR.out.size⟩
          have KDR := Aside0.mk (show hp ((wa.alloc (.cells #[.bool false, .slice none 0 0, .int .i64 0] 30))) wa.heap.size = some (.cells #[.bool false, .slice none 0 0, .int .i64 0] 30 (0, 0)) from hp_new wa _ _ rfl)
          replace HDA := Aside0.mk ((HDA.out.dq.mono (fun k hk => Nat.ne_of_lt hk)).below hb1)
          replace HBR := Aside0.mk (below_step HBR.out hb1)
          replace HVR := Aside0.mk (below_step HVR.out hb1)
          replace KXR := Aside0.mk (hp_below KXR.out hb1)
          obtain ⟨q0, q1, q2, q3, q4, q5, _, _, _, _, _, _⟩ := blk6 KXR.out
          clear hb1
          refine hK.out _ _ ⟨q0, q1, q2, q3, q4, q5⟩ (fun hHeld => ?_)
          clear hK K
          refine norm_ (a' := ?_) ?_ ?_
          rotate_left
          · show Act.put _ (some 6) _ = _
            simp only [Act.put, List.setIfInBounds_toArray, List.set_cons_zero, List.set_cons_succ, i64_w, i32_w]
            rfl
          refine one_ (i := 7) (N := some 27) #[true, true, true, true, true, true, true, true, false, false, false, true, false, false] rfl rfl (by kernel_rfl) (by decide) (fun K hK => ?_)
          refine goes_ Tryz.func17 (by kernel_rfl) rfl #[.agg #[.bool neg, .slice A5 m5 k5, .int .i64 x], .int .i64 (wrap64 (1 + wrap64 (4 * (k1 : Int)))), .int .i64 m] (by rfl) rfl rfl (by simp only [List.map_toArray, List.map_cons, List.map_nil]; rfl) ?_
          with_reducible refine (HRDV.out _ _ A5 m5 k5 (hp_lt KDR.out) HDA.out).mono ?_
          rintro e wb ⟨A6, m6, k6, rfl, hd, hb1⟩
          refine ⟨_, rfl, ?_⟩
          have HDB := Aside0.mk hd
          clear hd HDA
          replace HBR := Aside0.mk (below_step HBR.out hb1)
          replace HVR := Aside0.mk (below_step HVR.out hb1)
          replace KXR := Aside0.mk (hp_below KXR.out hb1)
          replace KDR := Aside0.mk (hp_below KDR.out hb1)
          obtain ⟨q0, q1, q2, q3, q4, q5, _, _, _, _, _, _⟩ := blk6 KXR.out
          clear hb1
          refine hK.out _ _ ⟨q0, q1, q2, q3, q4, q5⟩ (fun hHeld => ?_)
          clear hK K
          refine norm_ (a' := ?_) ?_ ?_
          rotate_left
          · show Act.put _ (some 27) _ = _
            simp only [Act.put, List.setIfInBounds_toArray, List.set_cons_zero, List.set_cons_succ, i64_w, i32_w]
            rfl
          refine pure_ (i := 8) (N := some 19) (v := ?_) (a' := ?_) #[true, true, true, true, true, true, true, true, true, false, false, true, false, false] rfl rfl (by kernel_rfl) (fun _ _ _ h => h) (Or.inl ⟨by rfl, ?_⟩) ?_ ?_
          rotate_left
          · intro w'
            go_simp
            with_reducible rfl
          rotate_left
          · simp only [Act.put, List.setIfInBounds_toArray, List.set_cons_zero, List.set_cons_succ, i64_w, i32_w]
            rfl
          refine pure_ (i := 9) (N := some 28) (v := ?_) (a' := ?_) #[true, true, true, true, true, true, true, true, true, true, false, true, false, false] rfl rfl (by kernel_rfl) (fun _ _ _ h => h) (Or.inl ⟨by rfl, ?_⟩) ?_ ?_
          rotate_left
          · intro w'
            go_simp
            with_reducible rfl
          rotate_left
          · simp only [Act.put, List.setIfInBounds_toArray, List.set_cons_zero, List.set_cons_succ, i64_w, i32_w]
            rfl
          refine pure_ (i := 10) (N := some 29) (v := ?_) (a' := ?_) #[true, true, true, true, true, true, true, true, true, true, true, true, false, false] rfl rfl (by kernel_rfl) (fun _ _ _ h => h) (Or.inl ⟨by rfl, ?_⟩) ?_ ?_
          rotate_left
          · intro w'
            go_simp
            with_reducible rfl
          rotate_left
          · simp only [Act.put, List.setIfInBounds_toArray, List.set_cons_zero, List.set_cons_succ, i64_w, i32_w]
            rfl
          exact norm_ (by simp only [putAll, Act.put, List.setIfInBounds_toArray, List.set_cons_zero, List.set_cons_succ]) (hCont (A5, m5, k5, A6, m6, k6, wa.heap.size) _ ⟨HDB.out, KDR.out, KBR.out, HBR.out, HVR.out, KXR.out⟩)
      · skip
        refine value_ (w1 := ?_) (v := ?_) (by rfl) rfl ?_ ?_
        rotate_left 2
        · go_simp
          constructor
          · rfl
          · rfl
        have hb1 : Below w3.drew.heap.size w3.drew ((w3.alloc (.cells #[.bool false, .slice none 0 0, .int .i64 0] 30)).drew) := below_alloc (Below.refl _ _) _
        have KBR : Aside0 (w2.heap.size ≤ w3.heap.size) := ⟨HVR.out.size⟩
        have KDR := Aside0.mk (show hp ((w3.alloc (.cells #[.bool false, .slice none 0 0, .int .i64 0] 30)).drew) w3.heap.size = some (.cells #[.bool false, .slice none 0 0, .int .i64 0] 30 (0, 0)) from hp_new w3 _ _ rfl)
        replace HBR := Aside0.mk (below_step HBR.out hb1)
        replace HVR := Aside0.mk (below_step HVR.out hb1)
        replace KXR := Aside0.mk (hp_below KXR.out hb1)
        obtain ⟨q0, q1, q2, q3, q4, q5, _, _, _, _, _, _⟩ := blk6 KXR.out
        clear hb1
        refine hK.out _ _ ⟨q0, q1, q2, q3, q4, q5⟩ (fun hHeld => ?_)
        clear hK K
        refine norm_ (a' := ?_) ?_ ?_
        rotate_left
        · show Act.put _ (some 6) _ = _
          simp only [Act.put, List.setIfInBounds_toArray, List.set_cons_zero, List.set_cons_succ, i64_w, i32_w]
          rfl
        refine one_ (i := 1) (N := some 21) #[true, true, true, true, true, true, true, false, false, false, false, true, false, false] rfl rfl (by kernel_rfl) (by decide) (fun K hK => ?_)
        refine goes_ Tryz.func12 (by kernel_rfl) rfl #[.agg #[.int .u64 P, .int .i64 m, .int .i64 1, .bool neg, .slice A X.length c, .int .i64 x]] (by rfl) rfl rfl (by simp only [List.map_toArray, List.map_cons, List.map_nil]; rfl) ?_
        with_reducible refine (HORV.out _ _ HVR.out (hp_lt KDR.out)).mono ?_
        rintro e wa ⟨A5, m5, k5, rfl, hd, hb1⟩
        refine ⟨_, rfl, ?_⟩
        have HDA := Aside0.mk hd
        clear hd
        replace HBR := Aside0.mk (below_step HBR.out hb1)
        replace HVR := Aside0.mk (below_step HVR.out hb1)
        replace KXR := Aside0.mk (hp_below KXR.out hb1)
        replace KDR := Aside0.mk (hp_below KDR.out hb1)
        obtain ⟨q0, q1, q2, q3, q4, q5, _, _, _, _, _, _⟩ := blk6 KXR.out
        clear hb1
        refine hK.out _ _ ⟨q0, q1, q2, q3, q4, q5⟩ (fun hHeld => ?_)
        clear hK K
        refine norm_ (a' := ?_) ?_ ?_
        rotate_left
        · show Act.put _ (some 21) _ = _
          simp only [Act.put, List.setIfInBounds_toArray, List.set_cons_zero, List.set_cons_succ, i64_w, i32_w]
          rfl
        refine one_ (i := 7) (N := some 27) #[true, true, true, true, true, true, true, true, false, false, false, true, false, false] rfl rfl (by kernel_rfl) (by decide) (fun K hK => ?_)
        refine goes_ Tryz.func17 (by kernel_rfl) rfl #[.agg #[.bool neg, .slice A5 m5 k5, .int .i64 x], .int .i64 (wrap64 (1 + wrap64 (4 * (k1 : Int)))), .int .i64 m] (by rfl) rfl rfl (by simp only [List.map_toArray, List.map_cons, List.map_nil]; rfl) ?_
        with_reducible refine (HRDV.out _ _ A5 m5 k5 (hp_lt KDR.out) HDA.out).mono ?_
        rintro e wb ⟨A6, m6, k6, rfl, hd, hb1⟩
        refine ⟨_, rfl, ?_⟩
        have HDB := Aside0.mk hd
        clear hd HDA
        replace HBR := Aside0.mk (below_step HBR.out hb1)
        replace HVR := Aside0.mk (below_step HVR.out hb1)
        replace KXR := Aside0.mk (hp_below KXR.out hb1)
        replace KDR := Aside0.mk (hp_below KDR.out hb1)
        obtain ⟨q0, q1, q2, q3, q4, q5, _, _, _, _, _, _⟩ := blk6 KXR.out
        clear hb1
        refine hK.out _ _ ⟨q0, q1, q2, q3, q4, q5⟩ (fun hHeld => ?_)
        clear hK K
        refine norm_ (a' := ?_) ?_ ?_
        rotate_left
        · show Act.put _ (some 27) _ = _
          simp only [Act.put, List.setIfInBounds_toArray, List.set_cons_zero, List.set_cons_succ, i64_w, i32_w]
          rfl
        refine pure_ (i := 8) (N := some 19) (v := ?_) (a' := ?_) #[true, true, true, true, true, true, true, true, true, false, false, true, false, false] rfl rfl (by kernel_rfl) (fun _ _ _ h => h) (Or.inl ⟨by rfl, ?_⟩) ?_ ?_
        rotate_left
        · intro w'
          go_simp
          with_reducible rfl
        rotate_left
        · simp only [Act.put, List.setIfInBounds_toArray, List.set_cons_zero, List.set_cons_succ, i64_w, i32_w]
          rfl
        refine pure_ (i := 9) (N := some 28) (v := ?_) (a' := ?_) #[true, true, true, true, true, true, true, true, true, true, false, true, false, false] rfl rfl (by kernel_rfl) (fun _ _ _ h => h) (Or.inl ⟨by rfl, ?_⟩) ?_ ?_
        rotate_left
        · intro w'
          go_simp
          with_reducible rfl
        rotate_left
        · simp only [Act.put, List.setIfInBounds_toArray, List.set_cons_zero, List.set_cons_succ, i64_w, i32_w]
          rfl
        refine pure_ (i := 10) (N := some 29) (v := ?_) (a' := ?_) #[true, true, true, true, true, true, true, true, true, true, true, true, false, false] rfl rfl (by kernel_rfl) (fun _ _ _ h => h) (Or.inl ⟨by rfl, ?_⟩) ?_ ?_
        rotate_left
        · intro w'
          go_simp
          with_reducible rfl
        rotate_left
        · simp only [Act.put, List.setIfInBounds_toArray, List.set_cons_zero, List.set_cons_succ, i64_w, i32_w]
          rfl
        exact norm_ (by simp only [putAll, Act.put, List.setIfInBounds_toArray, List.set_cons_zero, List.set_cons_succ]) (hCont (A5, m5, k5, A6, m6, k6, w3.heap.size) _ ⟨HDB.out, KDR.out, KBR.out, HBR.out, HVR.out, KXR.out⟩)
    rintro ⟨A5, m5, k5, A6, m6, k6, gd⟩ w8 ⟨hd, hkd, hkb, hb0, hv0, hkx⟩
    have hHeld := blk6 hkx
    have hHeld : _ ∧ _ ∧ _ ∧ _ ∧ _ ∧ _ := ⟨hHeld.1, hHeld.2.1, hHeld.2.2.1, hHeld.2.2.2.1, hHeld.2.2.2.2.1, hHeld.2.2.2.2.2.1⟩
    clear HBR HVR KXR
    have HD8 : Aside0 (Dq w8 (fun k => k ≠ gd) (.slice A6 m6 k6) (Q : Int)) := ⟨hd⟩
    have KD8 : Aside0 (hp w8 gd = some (.cells #[.bool false, .slice none 0 0, .int .i64 0] 30 (0, 0))) := ⟨hkd⟩
    have hkb : w2.heap.size ≤ gd := hkb
    have HB8 : Aside0 (Below w.heap.size w w8) := ⟨hb0⟩
    have HV8 : Aside0 (Below w2.heap.size w2 w8) := ⟨hv0⟩
    have KX8 : Aside0 (hp w8 w.heap.size = some (.cells #[.int .u64 P, .int .i64 m, .int .i64 1, .bool neg, .slice A X.length c, .int .i64 x] 25 (0, 0))) := ⟨hkx⟩
    obtain ⟨x0, x1, x2, r0, r1, r2⟩ := blk3 KD8.out
    have l8 := hp_lt KD8.out
    clear hd hkd hb0 hv0 hkx c0 c1 c2 c3 c4 c5 f0 f1 f2 f3 f4 f5 l1
    refine norm_ (a' := ?_) ?_ ?_
    rotate_left
    · simp only [putAll, Act.put, List.setIfInBounds_toArray, List.set_cons_zero, List.set_cons_succ]
      rfl
    refine last_ (i := 12) (N := none) #[true, true, true, true, true, true, true, true, true, true, true, true, true, false] rfl rfl (by kernel_rfl) (by decide) (fun K hK => ?_)
    refine skip_ (w1 := ?_) (by rfl) rfl ?_ ?_
    rotate_left
    · go_simp
      rfl
    refine hK.out _ _ ?_
    clear hK K
    refine pure_ (i := 13) (N := some 7) (v := ?_) (a' := ?_) #[true, true, true, true, true, true, true, true, true, true, true, true, true, true] rfl rfl (by kernel_rfl) (fun _ _ _ h => h) (Or.inl ⟨by rfl, ?_⟩) ?_ ?_
    rotate_left
    · intro w'
      go_simp
      with_reducible rfl
    rotate_left
    · simp only [Act.put, List.setIfInBounds_toArray, List.set_cons_zero, List.set_cons_succ, i64_w, i32_w]
      rfl
    refine done_ (by kernel_rfl) ?_
    go_wp2_with (fail)
    have hg1 : w.heap.size ≤ gd := Nat.le_trans HB0.out.size hkb
    have hg2 : gd ≠ w.heap.size := fun e => by have h1 := hp_lt KX.out; omega
    obtain ⟨w9, hw9⟩ : ∃ w9, w9 = ((w8.setCell ⟨gd, 0, none⟩ (.bool neg)).setCell ⟨gd, 1, none⟩ (.slice A6 m6 k6)).setCell ⟨gd, 2, none⟩ (.int .i64 Y) := ⟨_, rfl⟩
    have hkd : hp w9 gd = some (.cells #[.bool neg, .slice A6 m6 k6, .int .i64 Y] 30 (0, 0)) := by
      rw [hw9, hp_here _ _ _ _ _ rfl, hp_here _ _ _ _ _ rfl, hp_here _ _ _ _ _ rfl, KD8.out]
      rfl
    have hkx : hp w9 w.heap.size = some (.cells #[.int .u64 P, .int .i64 m, .int .i64 1, .bool neg, .slice A X.length c, .int .i64 x] 25 (0, 0)) := by
      rw [hw9, hp_other _ _ _ _ hg2, hp_other _ _ _ _ hg2, hp_other _ _ _ _ hg2, KX8.out]
    have HB9 : Aside0 (Below w.heap.size w w9) := ⟨by rw [hw9]; exact ((HB8.out.setCell (p := ⟨gd, 0, none⟩) hg1 _).setCell (p := ⟨gd, 1, none⟩) hg1 _).setCell (p := ⟨gd, 2, none⟩) hg1 _⟩
    have HV9 : Aside0 (Below w2.heap.size w2 w9) := ⟨by rw [hw9]; exact ((HV8.out.setCell (p := ⟨gd, 0, none⟩) hkb _).setCell (p := ⟨gd, 1, none⟩) hkb _).setCell (p := ⟨gd, 2, none⟩) hkb _⟩
    have HD9 : Aside0 (Dg w9 (.slice A6 m6 k6) (Q : Int)) := ⟨by rw [hw9]; exact (((HD8.out.far (p := ⟨gd, 0, none⟩) (fun h => h rfl) _).far (p := ⟨gd, 1, none⟩) (fun h => h rfl) _).far (p := ⟨gd, 2, none⟩) (fun h => h rfl) _).dg⟩
    have KD9 := Aside0.mk hkd
    have KX9 := Aside0.mk hkx
    rw [← hw9]
    clear hw9 x0 x1 x2 r0 r1 r2 l8 hkd hkx
    obtain ⟨x0, x1, x2, r0, r1, r2⟩ := blk3 KD9.out
    have l9 := hp_lt KD9.out
    go_wp2_with (go_at_call 13; refine (HOD.out w9 A6 m6 k6 HD9.out).mono ?_; rintro e wA ⟨A7, m7, c7, rfl, hdA, hbA⟩; have HBA := Aside0.mk (below_step HB9.out hbA); have HVA := Aside0.mk (below_step HV9.out hbA); have KXA := Aside0.mk (hp_below KX9.out hbA); have KDA := Aside0.mk (hp_below KD9.out hbA); have HDA := Aside0.mk hdA; clear hbA hdA)
    clear x0 x1 x2 r0 r1 r2 l9
    obtain ⟨c0, c1, c2, c3, c4, c5', f0, f1, f2, f3, f4, f5⟩ := blk6 KXA.out
    have l1 := hp_lt KXA.out
    obtain ⟨d0, d1, d2, g0, g1, g2⟩ := blk3 KDA.out
    have l2 := hp_lt KDA.out
    go_wp2_with (fail)
    refine start_ (n := 15) (S := fun w' => w'.cell? ⟨w.heap.size, 0, none⟩ = some (.int .u64 P) ∧ w'.cell? ⟨w.heap.size, 1, none⟩ = some (.int .i64 m) ∧ w'.cell? ⟨w.heap.size, 2, none⟩ = some (.int .i64 1) ∧ w'.cell? ⟨w.heap.size, 3, none⟩ = some (.bool neg) ∧ w'.cell? ⟨w.heap.size, 4, none⟩ = some (.slice A X.length c) ∧ w'.cell? ⟨w.heap.size, 5, none⟩ = some (.int .i64 x) ∧ w'.cell? ⟨gd, 0, none⟩ = some (.bool neg) ∧ w'.cell? ⟨gd, 2, none⟩ = some (.int .i64 Y)) (ds := []) #[false, false, false, false, false, false, false, false, false, false, false, false, false, false, false] (by kernel_rfl) rfl rfl ⟨(by go_simp), (by go_simp), (by go_simp), (by go_simp), (by go_simp), (by go_simp), (by go_simp), (by go_simp)⟩ (fun hHeld => ?_)
    refine pure_ (i := 1) (N := some 37) (v := ?_) (a' := ?_) #[false, true, false, false, false, false, false, false, false, false, false, false, false, false, false] rfl rfl (by kernel_rfl) (fun _ _ _ h => h) (Or.inl ⟨by rfl, ?_⟩) ?_ ?_
    rotate_left
    · intro w'
      go_simp
      with_reducible rfl
    rotate_left
    · simp only [Act.put, List.setIfInBounds_toArray, List.set_cons_zero, List.set_cons_succ, i64_w, i32_w]
      rfl
    refine pure_ (i := 3) (N := some 39) (v := ?_) (a' := ?_) #[false, true, false, true, false, false, false, false, false, false, false, false, false, false, false] rfl rfl (by kernel_rfl) (fun _ _ _ h => h) (Or.inl ⟨by rfl, ?_⟩) ?_ ?_
    rotate_left
    · intro w'
      go_simp
      with_reducible rfl
    rotate_left
    · simp only [Act.put, List.setIfInBounds_toArray, List.set_cons_zero, List.set_cons_succ, i64_w, i32_w]
      rfl
    refine pure_ (i := 5) (N := some 41) (v := ?_) (a' := ?_) #[false, true, false, true, false, true, false, false, false, false, false, false, false, false, false] rfl rfl (by kernel_rfl) (fun _ _ _ h => h) (Or.inl ⟨by rfl, ?_⟩) ?_ ?_
    rotate_left
    · intro w'
      go_simp
      with_reducible rfl
    rotate_left
    · simp only [Act.put, List.setIfInBounds_toArray, List.set_cons_zero, List.set_cons_succ, i64_w, i32_w]
      rfl
    refine pure_ (i := 6) (N := some 42) (v := ?_) (a' := ?_) #[false, true, false, true, false, true, true, false, false, false, false, false, false, false, false] rfl rfl (by kernel_rfl) (fun _ _ _ h => h) (Or.inl ⟨by rfl, ?_⟩) ?_ ?_
    rotate_left
    · intro w'
      go_simp
      with_reducible rfl
    rotate_left
    · simp only [Act.put, List.setIfInBounds_toArray, List.set_cons_zero, List.set_cons_succ, i64_w, i32_w]
      rfl
    refine pure_ (i := 8) (N := some 44) (v := ?_) (a' := ?_) #[false, true, false, true, false, true, true, false, true, false, false, false, false, false, false] rfl rfl (by kernel_rfl) (fun _ _ _ h => h) (Or.inl ⟨by rfl, ?_⟩) ?_ ?_
    rotate_left
    · intro w'
      go_simp
      with_reducible rfl
    rotate_left
    · simp only [Act.put, List.setIfInBounds_toArray, List.set_cons_zero, List.set_cons_succ, i64_w, i32_w]
      rfl
    refine pure_ (i := 11) (N := some 47) (v := ?_) (a' := ?_) #[false, true, false, true, false, true, true, false, true, false, false, true, false, false, false] rfl rfl (by kernel_rfl) (fun _ _ _ h => h) (Or.inl ⟨by rfl, ?_⟩) ?_ ?_
    rotate_left
    · intro w'
      go_simp
      with_reducible rfl
    rotate_left
    · simp only [Act.put, List.setIfInBounds_toArray, List.set_cons_zero, List.set_cons_succ, i64_w, i32_w]
      rfl
    refine take_ (i := 0) (N := some 36) (v := ?_) (a' := ?_) #[true, true, false, true, false, true, true, false, true, false, false, true, false, false, false] rfl rfl (by kernel_rfl) (fun _ _ _ h => h) (Or.inl ⟨by rfl, ?_⟩) hHeld ?_ ?_
    rotate_left
    · rintro w' ⟨s0, s1, s2, s3, s4, s5, s6, s7⟩
      go_simp
      with_reducible rfl
    rotate_left
    · simp only [Act.put, List.setIfInBounds_toArray, List.set_cons_zero, List.set_cons_succ, i64_w, i32_w]
      rfl
    refine take_ (i := 4) (N := some 40) (v := ?_) (a' := ?_) #[true, true, false, true, true, true, true, false, true, false, false, true, false, false, false] rfl rfl (by kernel_rfl) (fun _ _ _ h => h) (Or.inl ⟨by rfl, ?_⟩) hHeld ?_ ?_
    rotate_left
    · rintro w' ⟨s0, s1, s2, s3, s4, s5, s6, s7⟩
      go_simp
      with_reducible rfl
    rotate_left
    · simp only [Act.put, List.setIfInBounds_toArray, List.set_cons_zero, List.set_cons_succ, i64_w, i32_w]
      rfl
    refine take_ (i := 7) (N := some 43) (v := ?_) (a' := ?_) #[true, true, false, true, true, true, true, true, true, false, false, true, false, false, false] rfl rfl (by kernel_rfl) (fun _ _ _ h => h) (Or.inl ⟨by rfl, ?_⟩) hHeld ?_ ?_
    rotate_left
    · rintro w' ⟨s0, s1, s2, s3, s4, s5, s6, s7⟩
      go_simp
      with_reducible rfl
    rotate_left
    · simp only [Act.put, List.setIfInBounds_toArray, List.set_cons_zero, List.set_cons_succ, i64_w, i32_w]
      rfl
    refine pure_ (i := 9) (N := some 45) (v := ?_) (a' := ?_) #[true, true, false, true, true, true, true, true, true, true, false, true, false, false, false] rfl rfl (by kernel_rfl) (fun _ _ _ h => h) (Or.inl ⟨by rfl, ?_⟩) ?_ ?_
    rotate_left
    · intro w'
      go_simp
      with_reducible rfl
    rotate_left
    · simp only [Act.put, List.setIfInBounds_toArray, List.set_cons_zero, List.set_cons_succ, i64_w, i32_w]
      rfl
    refine pure_ (i := 10) (N := some 46) (v := ?_) (a' := ?_) #[true, true, false, true, true, true, true, true, true, true, true, true, false, false, false] rfl rfl (by kernel_rfl) (fun _ _ _ h => h) (Or.inl ⟨by rfl, ?_⟩) ?_ ?_
    rotate_left
    · intro w'
      go_simp
      with_reducible rfl
    rotate_left
    · simp only [Act.put, List.setIfInBounds_toArray, List.set_cons_zero, List.set_cons_succ, i64_w, i32_w]
      rfl
    refine one_ (i := 2) (N := some 38) #[true, true, true, true, true, true, true, true, true, true, true, true, false, false, false] rfl rfl (by kernel_rfl) (by decide) (fun K hK => ?_)
    refine goes_ Tryz.func14 (by kernel_rfl) rfl #[.agg #[.int .u64 P, .int .i64 m, .int .i64 1, .bool neg, .slice A X.length c, .int .i64 x], .int .u8 120, .int .i64 (k1 : Int)] (by rfl) rfl rfl (by simp only [List.map_toArray, List.map_cons, List.map_nil]; rfl) ?_
    with_reducible refine (HTX.out _ (below_drew1 HVA.out)).mono ?_
    rintro e w7 ⟨rfl, hb7⟩
    refine ⟨_, rfl, ?_⟩
    have HB7 := Aside0.mk (below_step (below_drew1 HBA.out) hb7)
    have KX7 := Aside0.mk (hp_below (show hp wA.drew w.heap.size = _ from KXA.out) hb7)
    have KD7 := Aside0.mk (hp_below (show hp wA.drew gd = _ from KDA.out) hb7)
    have HD7 := Aside0.mk ((HDA.out.below (below_drew (Below.refl _ _))).below hb7)
    obtain ⟨q0, q1, q2, q3, q4, q5, _, _, _, _, _, _⟩ := blk6 KX7.out
    obtain ⟨r0, r1, r2, _, _, _⟩ := blk3 KD7.out
    clear hb7
    refine hK.out _ _ ⟨q0, q1, q2, q3, q4, q5, r0, r2⟩ (fun hHeld => ?_)
    clear hK K
    refine norm_ (a' := ?_) ?_ ?_
    rotate_left
    · show Act.put _ (some 38) _ = _
      simp only [Act.put, List.setIfInBounds_toArray, List.set_cons_zero, List.set_cons_succ, i64_w, i32_w]
      rfl
    refine one_ (i := 12) (N := some 48) #[true, true, true, true, true, true, true, true, true, true, true, true, true, false, false] rfl rfl (by kernel_rfl) (by decide) (fun K hK => ?_)
    refine goes_ Tryz.func15 (by kernel_rfl) rfl #[.agg #[.bool neg, .slice A7 m7 c7, .int .i64 (wrap64 (Y + (z : Int)))], .int .i64 (k1 : Int)] (by rfl) rfl rfl (by simp only [List.map_toArray, List.map_cons, List.map_nil]; rfl) ?_
    with_reducible refine (HHP.out w7 A7 m7 c7 HD7.out).mono ?_
    rintro e wB ⟨rfl, hb9⟩
    refine ⟨_, rfl, ?_⟩
    have HBB := Aside0.mk (below_step HB7.out hb9)
    have KXB := Aside0.mk (hp_below KX7.out hb9)
    have KDB := Aside0.mk (hp_below KD7.out hb9)
    obtain ⟨q0, q1, q2, q3, q4, q5, _, _, _, _, _, _⟩ := blk6 KXB.out
    obtain ⟨r0, r1, r2, _, _, _⟩ := blk3 KDB.out
    clear hb9
    refine hK.out _ _ ⟨q0, q1, q2, q3, q4, q5, r0, r2⟩ (fun hHeld => ?_)
    clear hK K
    refine norm_ (a' := ?_) ?_ ?_
    rotate_left
    · show Act.put _ (some 48) _ = _
      simp only [Act.put, List.setIfInBounds_toArray, List.set_cons_zero, List.set_cons_succ, i64_w, i32_w]
      rfl
    refine pure_ (i := 13) (N := some 49) (v := ?_) (a' := ?_) #[true, true, true, true, true, true, true, true, true, true, true, true, true, true, false] rfl rfl (by kernel_rfl) (fun _ _ _ h => h) (Or.inl ⟨by rfl, ?_⟩) ?_ ?_
    rotate_left
    · intro w'
      go_simp
      with_reducible rfl
    rotate_left
    · simp only [Act.put, List.setIfInBounds_toArray, List.set_cons_zero, List.set_cons_succ, i64_w, i32_w]
      rfl
    refine pure_ (i := 14) (N := some 4) (v := ?_) (a' := ?_) #[true, true, true, true, true, true, true, true, true, true, true, true, true, true, true] rfl rfl (by kernel_rfl) (fun _ _ _ h => h) (Or.inl ⟨by rfl, ?_⟩) ?_ ?_
    rotate_left
    · intro w'
      go_simp
      with_reducible rfl
    rotate_left
    · simp only [Act.put, List.setIfInBounds_toArray, List.set_cons_zero, List.set_cons_succ, i64_w, i32_w]
      rfl
    refine done_ (by kernel_rfl) ?_
    go_wp2_with (fail)
    go_ret
    exact ⟨rfl, HBB.out⟩
  · have HPL1 : Aside0 (Calls Tryz.prog 11 #[.agg #[.int .u64 P, .int .i64 m, .int .i64 f, .bool neg, .slice A X.length c, .int .i64 x]] w2 fun e w' => e = .returned (.bool false) ∧ Below w2.heap.size w2 w') := ⟨HPL.out.mono (by
      rintro e w' ⟨r, rfl, h, hb⟩
      refine ⟨?_, hb⟩
      cases r with
      | false => rfl
      | true => exact absurd (h.1 rfl) hok)⟩
    clear HPL hok
    go_enter Tryz.func4, Tryz.ntmps4
    go_wp2_with ((fail_if_success go_at_call 11); go_in)
    rw [← hw2]
    clear hw2
    refine HPL1.out.mono ?_
    rintro e w3 ⟨rfl, hb3⟩
    have HB3 := Aside0.mk (below_step HB0.out hb3)
    clear hb3
    go_wp2_with (fail)
    go_ret
    exact ⟨rfl, HB3.out⟩
end Go.Proofs.YtfnknldbjckgoaaGreatDoor.fnHexRounded
