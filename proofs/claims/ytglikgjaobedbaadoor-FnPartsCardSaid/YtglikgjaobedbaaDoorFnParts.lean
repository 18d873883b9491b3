/-
  FnParts holds for every input.
-/
import Derived.Test.YtglikgjaobedbaaDoorPartsW
namespace Go.Proofs.YtglikgjaobedbaaDoor.fnParts
open Go.RowKit Go.Proofs.YtglikgjaobedbaaDoorW.PrintWords Go.Proofs.YtglikgjaobedbaaDoorW.PrintLast Go.Proofs.YtglikgjaobedbaaDoorW.PrintMore Go.Proofs.YtglikgjaobedbaaDoor.Dig Go.Proofs.YtglikgjaobedbaaDoor.Sp
set_option linter.unusedVariables false
set_option linter.unusedSimpArgs false
set_option maxHeartbeats 6400000 in
set_option maxRecDepth 100000 in
theorem walk (p m f : Int) (neg : Bool) (v : Value) (X : List Int) (x : Int) (w : World) (hv : InInts .u64 w v X) (hp : (Lit.int .u64 p).wf = true) (hm : (Lit.int .i64 m).wf = true) (hf : (Lit.int .i64 f).wf = true) (hx : (Lit.int .i64 x).wf = true) (hT : Tb w) :
    Calls Tryd.prog 7 #[.agg #[.int .u64 p, .int .i64 m, .int .i64 f, .bool neg, v, .int .i64 x]] w fun e w' => e = .returned (.bool true) ∧ Below w.heap.size w w' := by
  have hws := ws_in hv
  obtain ⟨A, c, rfl, _⟩ := hv
  have hpp := wf_u64 hp
  clear hp hm hf hx 
  obtain ⟨P, rfl⟩ := Int.eq_ofNat_of_zero_le hpp.1
  have hu := Tryd.underlying28
  have HB0 := Aside0.mk (below_alloc (below_alloc (Below.refl w.heap.size w) (.cells #[.int .u64 P, .int .i64 m, .int .i64 f, .bool neg, .slice A X.length c, .int .i64 x] 28)) (.cells #[.int .u64 P, .int .i64 m, .int .i64 f, .bool neg, .slice A X.length c, .int .i64 x] 28))
  have HX := Aside0.mk (hws.below HB0.out)
  have HT := Aside0.mk (hT.below HB0.out hT.2)
  clear hws
  have hgT : 2 < w.heap.size := hT.2
  clear hT
  by_cases hbb : 2147483647 < X.length
  · go_enter Tryd.func7, Tryd.ntmps7
    go_wp2_with ((fail_if_success go_at_call 21); go_in)
    go_ret
    exact ⟨rfl, HB0.out⟩
  have HRL := Aside0.mk (real_l 300 1000 P m f x neg A c X _ HX.out (by omega) (by omega) (by omega))
  go_enter Tryd.func7, Tryd.ntmps7
  go_wp2_with ((fail_if_success go_at_call 21); go_in)
  refine (HRL.out).mono ?_
  rintro e w1 ⟨r, rfl, hr, hb1⟩
  have KX := Aside0.mk (hp_below (show hp _ w.heap.size = some (.cells #[.int .u64 P, .int .i64 m, .int .i64 f, .bool neg, .slice A X.length c, .int .i64 x] 28 (0, 0)) from (by simp (disch := first | omega | (simp; omega) | (simp; done) | fail) [hp_new, hp_old, hp_here, hp_other, setObj_cells, hp_drew, hp_drewN])) hb1)
  have HB1 := Aside0.mk (below_step HB0.out hb1)
  have HX1 := Aside0.mk (HX.out.below hb1)
  have HT1 := Aside0.mk (HT.out.below hb1 HT.out.2)
  have hs1 := hp_lt KX.out
  clear hb1 HRL HB0 HX HT
  obtain ⟨c0, c1, c2, c3, c4, c5, f0, f1, f2, f3, f4, f5⟩ := blk6 KX.out
  cases r with
  | false =>
    clear hr
    go_wp2_with (fail)
    go_ret
    exact ⟨rfl, HB1.out⟩
  | true =>
    obtain ⟨z, b, n, hrok, h1⟩ := lets (hr rfl) HX1.out (by omega) (by omega)
    have H1 := Aside0.mk h1
    have hp1 := hrok.1
    have hm1 := hrok.2.1
    have HRK := Aside0.mk hrok
    clear hrok h1 hr
    obtain ⟨y, hy⟩ : ∃ y, y = tx f (-(b : Int)) n := ⟨_, rfl⟩
    obtain ⟨E, hE⟩ : ∃ E, E = me f b x := ⟨_, rfl⟩
    have HVL := Aside0.mk (show tv f z n < Lim from by
      by_cases hf : f = 1
      · obtain ⟨_, h2, h3, _⟩ := H1.out hf
        rw [tv, if_pos hf]
        have := Int.ediv_le_self (2 ^ n) (Int.le_of_lt h2)
        omega
      · rw [tv, if_neg hf]; exact lt_Lim 0 (by decide) (by omega))
    obtain ⟨V, hV⟩ : ∃ V, V = tv f z n := ⟨_, rfl⟩
    rw [← hV] at HVL
    have hpp0 := fun W (hr : ROk W P m f A X.length c x z b n X) (hT : Tb W) => parts0_c P m f neg A X.length c x z b n X W hr hT
    have hpp1 := fun W (hr : ROk W P m f A X.length c x z b n X) (hT : Tb W) => parts1_c P m f neg A X.length c x z b n X W hr hT
    have hpp2 := fun W (hr : ROk W P m f A X.length c x z b n X) (hT : Tb W) => parts2_c P m f neg A X.length c x z b n X W hr hT
    unfold PartsPost at hpp0 hpp1
    rw [← hV, ← hy, ← hE] at hpp0 hpp1
    rw [← hE] at hpp2
    have HPP1 := Aside0.mk hpp1
    have HPP2 := Aside0.mk hpp2
    have HP0 := Aside0.mk (hpp0 w1 HRK.out HT1.out)
    clear hpp0 hpp1 hpp2 hy hE hV
    go_wp2_with (fail)
    refine (HP0.out).mono ?_
    rintro e w2 ⟨A1, n1, k1, rfl, hv1, hb2⟩
    have HB2 := Aside0.mk (below_step HB1.out hb2)
    have HBA := Aside0.mk (below_alloc (Below.refl w2.heap.size w2) (.cells #[.int .u64 P, .int .i64 m, .int .i64 f, .bool neg, .slice A1 n1 k1, .int .i64 y] 28))
    have HR2 := Aside0.mk ((HRK.out.below hb2).below HBA.out)
    have HT2 := Aside0.mk ((HT1.out.below hb2 HT1.out.2).below HBA.out (by have := hb2.size; omega))
    have KX2 := Aside0.mk (hp_below (hp_below KX.out hb2) HBA.out)
    have HV1 := Aside0.mk (hv1.wd.below HBA.out)
    have hs2 : w.heap.size < w2.heap.size := by have := hb2.size; omega
    have HP1 := Aside0.mk (HPP1.out _ HR2.out HT2.out)
    have q0 := hp_below KX.out hb2
    clear hv1 hb2 HRK HT1 KX HP0 c0 c1 c2 c3 c4 c5 f0 f1 f2 f3 f4 f5
    obtain ⟨c0, c1, c2, c3, c4, c5, f0, f1, f2, f3, f4, f5⟩ := blk6 q0
    clear q0
    go_wp2_with (fail)
    refine (HP1.out).mono ?_
    rintro e w3 ⟨A2, n2, k2, rfl, hv2, hb3⟩
    have KA3 := Aside0.mk (hp_below (show hp _ w2.heap.size = some (.cells #[.int .u64 P, .int .i64 m, .int .i64 f, .bool neg, .slice A1 n1 k1, .int .i64 y] 28 (0, 0)) from (by simp (disch := first | omega | (simp; omega) | (simp; done) | fail) [hp_new, hp_old, hp_here, hp_other, setObj_cells, hp_drew, hp_drewN])) hb3)
    have KX3 := Aside0.mk (hp_below KX2.out hb3)
    have HB3 := Aside0.mk (below_step (HB2.out.trans (HBA.out.mono (by omega))) hb3)
    have HBB := Aside0.mk (below_alloc (Below.refl w3.heap.size w3) (.cells #[.int .u64 P, .int .i64 m, .int .i64 f, .bool neg, .slice A2 n2 k2, .int .i64 y] 28))
    have HR3 := Aside0.mk ((HR2.out.below hb3).below HBB.out)
    have HT3 := Aside0.mk ((HT2.out.below hb3 HT2.out.2).below HBB.out (by have := hb3.size; simp at this; omega))
    have HV1' := Aside0.mk ((HV1.out.below hb3).below HBB.out)
    have HV2 := Aside0.mk (hv2.wd.below HBB.out)
    have hs3 := hp_lt KA3.out
    have hs3' := hp_lt KX3.out
    have HP2 := Aside0.mk (HPP2.out _ HR3.out HT3.out)
    clear hv2 hb3 HR2 HT2 KX2 HP1 HBA HV1 HB2 c0 c1 c2 c3 c4 c5 f0 f1 f2 f3 f4 f5
    obtain ⟨c0, c1, c2, c3, c4, c5, f0, f1, f2, f3, f4, f5⟩ := blk6 KX3.out
    go_wp2_with (fail)
    refine (HP2.out).mono ?_
    rintro e w4 ⟨rfl, hb4⟩
    have KB4 := Aside0.mk (hp_below (show hp _ w3.heap.size = some (.cells #[.int .u64 P, .int .i64 m, .int .i64 f, .bool neg, .slice A2 n2 k2, .int .i64 y] 28 (0, 0)) from (by simp (disch := first | omega | (simp; omega) | (simp; done) | fail) [hp_new, hp_old, hp_here, hp_other, setObj_cells, hp_drew, hp_drewN])) hb4)
    have KA4 := Aside0.mk (hp_below (hp_below KA3.out HBB.out) hb4)
    have KX4 := Aside0.mk (hp_below (hp_below KX3.out HBB.out) hb4)
    have HB4 := Aside0.mk (below_step (HB3.out.trans (HBB.out.mono (by omega))) hb4)
    have HBC := Aside0.mk (below_alloc (Below.refl w4.heap.size w4) (.cells #[.int .u64 0, .int .i64 0, .int .i64 0, .bool false, .slice none 0 0, .int .i64 0] 28))
    have HV1'' := Aside0.mk ((HV1'.out.below hb4).below HBC.out)
    have HV2' := Aside0.mk ((HV2.out.below hb4).below HBC.out)
    have hs4 := hp_lt KB4.out
    have hs4' := hp_lt KA4.out
    have hs4'' := hp_lt KX4.out
    clear hb4 HR3 HT3 KX3 KA3 HP2 HBB HV1' HV2 HB3 c0 c1 c2 c3 c4 c5 f0 f1 f2 f3 f4 f5
    obtain ⟨c0, c1, c2, c3, c4, c5, f0, f1, f2, f3, f4, f5⟩ := blk6 KX4.out
    obtain ⟨a0, a1, a2, a3, a4, a5, _, _, _, _, _, _⟩ := blk6 KA4.out
    obtain ⟨b0, b1, b2, b3, b4, b5, _, _, _, _, _, _⟩ := blk6 KB4.out
    have HSM := Aside0.mk (same_c P m f y neg A1 A2 n1 k1 n2 k2 V _ HV1''.out HV2'.out HVL.out)
    go_wp2_with (fail)
    refine (HSM.out).mono ?_
    rintro e w5 ⟨rfl, hb5⟩
    have KA5 := Aside0.mk (hp_below (hp_below KA4.out HBC.out) hb5)
    have KX5 := Aside0.mk (hp_below (hp_below KX4.out HBC.out) hb5)
    have KC5 := Aside0.mk (hp_below (show hp _ w4.heap.size = some (.cells #[.int .u64 0, .int .i64 0, .int .i64 0, .bool false, .slice none 0 0, .int .i64 0] 28 (0, 0)) from (by simp (disch := first | omega | (simp; omega) | (simp; done) | fail) [hp_new, hp_old, hp_here, hp_other, setObj_cells, hp_drew, hp_drewN])) hb5)
    have HB5 := Aside0.mk (below_step (HB4.out.trans (HBC.out.mono (by omega))) hb5)
    clear hb5 HSM HV1'' HV2' HBC HB4 KA4 KX4 KB4 a0 a1 a2 a3 a4 a5 b0 b1 b2 b3 b4 b5 c0 c1 c2 c3 c4 c5 f0 f1 f2 f3 f4 f5
    obtain ⟨c0, c1, c2, c3, c4, c5, f0, f1, f2, f3, f4, f5⟩ := blk6 KC5.out
    go_wp2_with (fail)
    refine (dull_c _).mono ?_
    rintro e w6 ⟨rfl, hb6⟩
    have HB6 := Aside0.mk (below_step HB5.out hb6)
    clear c0 c1 c2 c3 c4 c5 f0 f1 f2 f3 f4 f5
    obtain ⟨a0, a1, a2, a3, a4, a5, _, _, _, _, _, _⟩ := blk6 (hp_below KA5.out hb6)
    obtain ⟨b0, b1, b2, b3, b4, b5, _, _, _, _, _, _⟩ := blk6 (hp_below KX5.out hb6)
    clear hb6
    go_wp2_with (fail)
    go_ret
    exact ⟨rfl, HB6.out⟩
end Go.Proofs.YtglikgjaobedbaaDoor.fnParts
