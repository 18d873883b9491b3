/-
  FnGeneralShort holds for every input.
-/
import Derived.Test.YtfnknldbjckgoaaGreatDoorGenC
import Derived.Test.YtfnknldbjckgoaaGreatDoorGx2
import Derived.Test.YtfnknldbjckgoaaGreatDoorTextK
import Derived.Test.YtfnknldbjckgoaaGreatDoorGrea
namespace Go.Proofs.YtfnknldbjckgoaaGreatDoor.fnGeneralShort
open Go.RowKit Go.Proofs.YtfnknldbjckgoaaGreatDoorW.PrintWords Go.Proofs.YtfnknldbjckgoaaGreatDoorW.PrintLast Go.Proofs.YtfnknldbjckgoaaGreatDoorW.PrintMore Go.Proofs.YtfnknldbjckgoaaGreatDoor.Dig Go.Proofs.YtfnknldbjckgoaaGreatDoor.Sp
set_option linter.unusedVariables false
set_option linter.unusedSimpArgs false
theorem pwb {w w' : World} (h : Pw w) (hb : Below w.heap.size w w') : Pw w' := ((Go.Lib.tabBelow_of_tabIs h).on hb).here
theorem tbb {w w' : World} (h : Tb w) (hb : Below w.heap.size w w') : Tb w' := h.kept (Kept.of_below (S := fun _ => False) hb) (fun h => h)
set_option maxHeartbeats 6400000 in
set_option maxRecDepth 100000 in
theorem walk (p m f : Int) (neg : Bool) (v : Value) (X : List Int) (x : Int) (w : World) (hv : InInts .u64 w v X) (hp : (Lit.int .u64 p).wf = true) (hm : (Lit.int .i64 m).wf = true) (hf : (Lit.int .i64 f).wf = true) (hx : (Lit.int .i64 x).wf = true) (hL : Leaf w) (hT : Pw w) (hTb : Tb w) :
    Calls Tryz.prog 6 #[.agg #[.int .u64 p, .int .i64 m, .int .i64 f, .bool neg, v, .int .i64 x]] w fun e w' => e = .returned (.bool true) ∧ Below w.heap.size w w' := by
  have hws := ws_in hv
  obtain ⟨A, c, rfl, _⟩ := hv
  have hpp := wf_u64 hp
  have hpu := hpp
  clear hp hm hf hx
  obtain ⟨P, rfl⟩ := Int.eq_ofNat_of_zero_le hpp.1
  have hu := Tryz.underlying25
  have HB00 := Aside0.mk (below_alloc (Below.refl w.heap.size w) (.cells #[.int .u64 P, .int .i64 m, .int .i64 f, .bool neg, .slice A X.length c, .int .i64 x] 25))
  have HB0 := Aside0.mk (below_alloc HB00.out (.cells #[.int .u64 P, .int .i64 m, .int .i64 f, .bool neg, .slice A X.length c, .int .i64 x] 25))
  have KX := Aside0.mk (show hp ((w.alloc (.cells #[.int .u64 P, .int .i64 m, .int .i64 f, .bool neg, .slice A X.length c, .int .i64 x] 25)).alloc (.cells #[.int .u64 P, .int .i64 m, .int .i64 f, .bool neg, .slice A X.length c, .int .i64 x] 25)) w.heap.size = some (.cells #[.int .u64 P, .int .i64 m, .int .i64 f, .bool neg, .slice A X.length c, .int .i64 x] 25 (0, 0)) from (by simp (disch := first | omega | (simp; omega) | (simp; done) | fail) [hp_new, hp_old, hp_here, hp_other, setObj_cells, hp_drew, hp_drewN]))
  have HX := Aside0.mk (hws.below HB0.out)
  have HTB := Aside0.mk (tbb hTb HB0.out)
  have HPW := Aside0.mk (pwb hT HB0.out)
  have HLF := Aside0.mk (hL.below HB0.out)
  clear hws hL hT hTb
  by_cases hbb : 2147483647 < X.length
  · go_enter Tryz.func6, Tryz.ntmps6
    go_wp2_with ((fail_if_success go_at_call 11); go_in)
    go_ret
    exact ⟨rfl, HB0.out⟩
  obtain ⟨w2, hw2⟩ : ∃ w2, w2 = (w.alloc (.cells #[.int .u64 P, .int .i64 m, .int .i64 f, .bool neg, .slice A X.length c, .int .i64 x] 25)).alloc (.cells #[.int .u64 P, .int .i64 m, .int .i64 f, .bool neg, .slice A X.length c, .int .i64 x] 25) := ⟨_, rfl⟩
  rw [← hw2] at HB0 KX HX HTB HPW HLF
  have HPL := Aside0.mk (plainly_m P m f x neg A c X w2 HX.out hpp.1)
  have HBD := Aside0.mk (below_drew1 HB0.out)
  obtain ⟨c0, c1, c2, c3, c4, c5, f0, f1, f2, f3, f4, f5⟩ := blk6 KX.out
  have l1 := hp_lt KX.out
  by_cases hok : f = 1 ∧ RealOk 200 300 P m 1 x X
  · obtain ⟨rfl, hr⟩ := hok
    have HRO := Aside0.mk hr
    obtain ⟨⟨q1, q2, q3, q4⟩, hq⟩ := hr
    have hq2 : (X.length : Int) ≤ ((P : Int) + 63) / 64 ∧ 0 < ev BW X ∧ (∃ b : Nat, Bits (ev BW X) b ∧ (b : Int) ≤ P) ∧ -300 ≤ x ∧ x ≤ 300 := by
      rcases hq with (h | h) | ⟨_, h⟩
      · omega
      · omega
      · exact h
    obtain ⟨hlen, hev, ⟨b, hb, hbP⟩, hx0, hx1⟩ := hq2
    obtain ⟨vN, hvN⟩ : ∃ vN : Nat, ev BW X = (vN : Int) := Int.eq_ofNat_of_zero_le (Int.le_of_lt hev)
    rw [hvN] at hb hev
    have hPw : IntKind.i64.wrap (P : Int) = (P : Int) := IntWalk.i64_in _ (by omega)
    have hbP2 : b ≤ P := by omega
    have hP2 : P ≤ 200 := by omega
    have hvp : 0 < vN := by omega
    have HLX : Aside0 (X.length ≤ 10000) := ⟨by omega⟩
    have HPL1 : Aside0 (Calls Tryz.prog 11 #[.agg #[.int .u64 P, .int .i64 m, .int .i64 1, .bool neg, .slice A X.length c, .int .i64 x]] w2 fun e w' => e = .returned (.bool true) ∧ Below w2.heap.size w2 w') := ⟨HPL.out.mono (by
      rintro e w' ⟨r, rfl, h, hb⟩
      obtain rfl : r = true := h.2 ⟨rfl, HRO.out⟩
      exact ⟨rfl, hb⟩)⟩
    obtain ⟨hi0, hi9, hi8⟩ := initD_bd hvp hb (by omega) ⟨hx0, hx1⟩
    have hs0 := shortV_bd (p := P) hvp hb (by omega) ⟨hx0, hx1⟩
    have hsl := hs0.len
    have hslo := hs0.lo
    have hshi := hs0.hi
    obtain ⟨S1, hS1⟩ : ∃ S, S = strOfNums (sgn1 neg ++ finT vN b P x 101 (-1)) := ⟨_, rfl⟩
    obtain ⟨S2, hS2⟩ : ∃ S, S = strOfNums (sgn1 neg ++ finT vN b P x 103 (-1)) := ⟨_, rfl⟩
    have HT1 : Aside0 (∀ W, Below w2.heap.size w2 W → Calls Tryz.prog 14 #[.agg #[.int .u64 P, .int .i64 m, .int .i64 1, .bool neg, .slice A X.length c, .int .i64 x], .int .u8 101, .int .i64 (-1)] W fun e w' => e = .returned (.string S1) ∧ Below W.heap.size W w') := ⟨fun W hW => by
      rw [hS1]
      exact textK_c P vN b m 101 (-1) neg A c x X W (HX.out.below hW) HLX.out hvN hvp hb hbP2 (by omega) (by omega) (by omega) (by omega) (by omega) (pwb HPW.out hW) (HLF.out.below hW) (tbb HTB.out hW)⟩
    have HT2 : Aside0 (∀ W, Below w2.heap.size w2 W → Calls Tryz.prog 14 #[.agg #[.int .u64 P, .int .i64 m, .int .i64 1, .bool neg, .slice A X.length c, .int .i64 x], .int .u8 103, .int .i64 (-1)] W fun e w' => e = .returned (.string S2) ∧ Below W.heap.size W w') := ⟨fun W hW => by
      rw [hS2]
      exact textK_c P vN b m 103 (-1) neg A c x X W (HX.out.below hW) HLX.out hvN hvp hb hbP2 (by omega) (by omega) (by omega) (by omega) (by omega) (pwb HPW.out hW) (HLF.out.below hW) (tbb HTB.out hW)⟩
    obtain ⟨a, y, hT1, ha1, ⟨ha2, ha3⟩, hy, hdc, hgen⟩ := gen_short (initD vN x) (shortV vN b P x) 0 hs0.dc
    have hz4 : 4 < S1.size := by
      have h1 := (expF_len9 y (by omega)).1
      rw [hS1, show finT vN b P x 101 (-1) = _ from hT1, strOfNums_sz, List.length_append, List.length_append, List.length_cons, List.length_cons]
      omega
    obtain ⟨zz, hzz⟩ : ∃ zz, S1.size = zz := ⟨_, rfl⟩
    rw [hzz] at hz4
    have hz4i : (4 : Int) < (zz : Int) := by omega
    have hz4d : decide ((4 : Int) < (zz : Int)) = true := decide_eq_true hz4i
    have HGN : Aside0 (∀ W, Calls Tryz.prog 18 #[.string S1, .int .i64 0, .bool true] W fun e w' => e = .returned (.string S2) ∧ Below W.heap.size W w') := ⟨fun W => by
      rw [hS1, hS2, show finT vN b P x 101 (-1) = _ from hT1, show finT vN b P x 103 (-1) = _ from hgen.symm]
      exact general_c neg a y 0 true W ha1 ha2 (by omega) (by omega) (by omega) hdc⟩
    clear hT1 ha1 ha2 ha3 hy hdc hgen hS1 hS2
    clear hi0 hi9 hi8 hs0 hsl hslo hshi
    clear HPL HRO hq hlen hev hb hbP hx0 hx1 hvN hbP2 hP2 hvp
    go_enter Tryz.func6, Tryz.ntmps6
    go_wp2_with ((fail_if_success go_at_call 11); go_in)
    rw [← hw2]
    clear hw2
    refine HPL1.out.mono ?_
    rintro e w3 ⟨rfl, hb3⟩
    have HB3 := Aside0.mk (below_step HB0.out hb3)
    have HV3 := Aside0.mk hb3
    have KX3 := Aside0.mk (hp_below KX.out hb3)
    clear hb3 c0 c1 c2 c3 c4 c5 f0 f1 f2 f3 f4 f5 l1
    obtain ⟨c0, c1, c2, c3, c4, c5, f0, f1, f2, f3, f4, f5⟩ := blk6 KX3.out
    have l1 := hp_lt KX3.out
    go_wp2_with (first | (go_at_call 14; refine (HT1.out w3 HV3.out).mono ?_; rintro e w4 ⟨rfl, hb4⟩; have HB4 := Aside0.mk (below_step HB3.out hb4); have HV4 := Aside0.mk (below_step HV3.out hb4); have KX4 := Aside0.mk (hp_below KX3.out hb4); clear hb4; clear c0 c1 c2 c3 c4 c5 f0 f1 f2 f3 f4 f5 l1; obtain ⟨c0, c1, c2, c3, c4, c5, f0, f1, f2, f3, f4, f5⟩ := blk6 KX4.out; have l1 := hp_lt KX4.out) | (go_at_call 14; refine (HT2.out w4 HV4.out).mono ?_; rintro e w5 ⟨rfl, hb5⟩; have HB5 := Aside0.mk (below_step HB4.out hb5); have HV5 := Aside0.mk (below_step HV4.out hb5); have KX5 := Aside0.mk (hp_below KX4.out hb5); clear hb5; clear c0 c1 c2 c3 c4 c5 f0 f1 f2 f3 f4 f5 l1; obtain ⟨c0, c1, c2, c3, c4, c5, f0, f1, f2, f3, f4, f5⟩ := blk6 KX5.out; have l1 := hp_lt KX5.out) | (go_at_call 18; refine (HGN.out w5).mono ?_; rintro e w6 ⟨rfl, hb6⟩; have HB6 := Aside0.mk (below_step HB5.out hb6); have HV6 := Aside0.mk (below_step HV5.out hb6); have KX6 := Aside0.mk (hp_below KX5.out hb6); clear hb6; clear c0 c1 c2 c3 c4 c5 f0 f1 f2 f3 f4 f5 l1; obtain ⟨c0, c1, c2, c3, c4, c5, f0, f1, f2, f3, f4, f5⟩ := blk6 KX6.out; have l1 := hp_lt KX6.out) | fail)
    go_ret
    exact ⟨rfl, HB6.out⟩
  · have HPL1 : Aside0 (Calls Tryz.prog 11 #[.agg #[.int .u64 P, .int .i64 m, .int .i64 f, .bool neg, .slice A X.length c, .int .i64 x]] w2 fun e w' => e = .returned (.bool false) ∧ Below w2.heap.size w2 w') := ⟨HPL.out.mono (by
      rintro e w' ⟨r, rfl, h, hb⟩
      refine ⟨?_, hb⟩
      cases r with
      | false => rfl
      | true => exact absurd (h.1 rfl) hok)⟩
    clear HPL hok
    go_enter Tryz.func6, Tryz.ntmps6
    go_wp2_with ((fail_if_success go_at_call 11); go_in)
    rw [← hw2]
    clear hw2
    refine HPL1.out.mono ?_
    rintro e w3 ⟨rfl, hb3⟩
    have HB3 := Aside0.mk (below_step HB0.out hb3)
    clear hb3
    go_wp2_with (fail)
    go_ret
    exact ⟨rfl, HB3.out⟩
end Go.Proofs.YtfnknldbjckgoaaGreatDoor.fnGeneralShort
