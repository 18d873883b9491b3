/-
  FnByZero holds for every input.
-/
import Derived.Test.YtglikgjaobedbaaGreatDoorOp
import Derived.Test.YtglikgjaobedbaaGreatDoorGlaw
namespace Go.Proofs.YtglikgjaobedbaaGreatDoor.fnByZero
open Go.RowKit Go.Proofs.YtglikgjaobedbaaGreatDoorW.PrintWords Go.Proofs.YtglikgjaobedbaaGreatDoorW.PrintLast Go.Proofs.YtglikgjaobedbaaGreatDoorW.PrintMore Go.Proofs.YtglikgjaobedbaaGreatDoor.Dig Go.Proofs.YtglikgjaobedbaaGreatDoor.Sp
set_option linter.unusedVariables false
set_option linter.unusedSimpArgs false
set_option maxHeartbeats 6400000 in
set_option maxRecDepth 100000 in
theorem walk (a : Int) (ha : (Lit.int .u16 a).wf = true) (d : Int) (hd : (Lit.int .u8 d).wf = true) (p m f : Int) (neg : Bool) (v : Value) (X : List Int) (x : Int) (ng inf : Bool) (w : World) (hv : InInts .u64 w v X) (hp : (Lit.int .u64 p).wf = true) (hm : (Lit.int .i64 m).wf = true) (hf : (Lit.int .i64 f).wf = true) (hx : (Lit.int .i64 x).wf = true) :
    Calls Tryz.prog 4 #[.int .u16 a, .int .u8 d, .agg #[.int .u64 p, .int .i64 m, .int .i64 f, .bool neg, v, .int .i64 x], .bool ng, .bool inf] w fun e w' => e = .returned (.bool true) ∧ Below w.heap.size w w' := by
  have hws := ws_in hv
  obtain ⟨A, c, rfl, _⟩ := hv
  have hpp := wf_u64 hp
  have ha2 := wf_u16 ha
  have hd2 := wf_u8 hd
  obtain ⟨p0, hp9⟩ : ∃ p0 : Int, p0 = a % 301 := ⟨_, rfl⟩
  obtain ⟨m0, hm9⟩ : ∃ m0 : Int, m0 = d % 6 := ⟨_, rfl⟩
  have hp2 : a % 301 = p0 := hp9.symm
  have hm2 : d % 6 = m0 := hm9.symm
  have hp3 : 0 ≤ p0 ∧ p0 < 301 := by omega
  have hm3 : 0 ≤ m0 ∧ m0 < 6 := by omega
  clear hp hm hf hx ha hd hp9 hm9
  obtain ⟨P, rfl⟩ := Int.eq_ofNat_of_zero_le hpp.1
  have hu := Tryz.underlying26
  have HB00 := Aside0.mk (below_alloc (below_alloc (Below.refl w.heap.size w) (.cells #[.int .u64 P, .int .i64 m, .int .i64 f, .bool neg, .slice A X.length c, .int .i64 x] 26)) (.cells #[.int .u64 P, .int .i64 m, .int .i64 f, .bool neg, .slice A X.length c, .int .i64 x] 26))
  have HB0 := Aside0.mk (below_alloc HB00.out (.cells #[.int .u64 P, .int .i64 m, .int .i64 f, .bool neg, .slice A X.length c, .int .i64 x] 26))
  have HX := Aside0.mk (hws.below HB0.out)
  clear hws
  by_cases hbb : 2147483647 < X.length
  · go_enter Tryz.func4, Tryz.ntmps4
    go_wp2_with ((fail_if_success go_at_call 7); go_in)
    go_ret
    exact ⟨rfl, HB00.out⟩
  by_cases h2 : f = 2
  · subst h2
    go_enter Tryz.func4, Tryz.ntmps4
    go_wp2_with ((fail_if_success go_at_call 7); go_in)
    go_ret
    exact ⟨rfl, HB0.out⟩
  have h2b : (f != 2) = true := by simp [h2]
  have HRL := Aside0.mk (real_l 300 1000 P m f x neg A c X _ HX.out (by omega) (by omega) (by omega))
  go_enter Tryz.func4, Tryz.ntmps4
  go_wp2_with ((fail_if_success go_at_call 7); go_in)
  refine (HRL.out).mono ?_
  rintro e w1 ⟨r, rfl, hr, hb1⟩
  have KX := Aside0.mk (hp_below (show hp _ w.heap.size = some (.cells #[.int .u64 P, .int .i64 m, .int .i64 f, .bool neg, .slice A X.length c, .int .i64 x] 26 (0, 0)) from (by simp (disch := first | omega | (simp; omega) | (simp; done) | fail) [hp_new, hp_old, hp_here, hp_other, setObj_cells, hp_drew, hp_drewN])) hb1)
  have HB1 := Aside0.mk (below_step HB0.out hb1)
  have HX1 := Aside0.mk (HX.out.below hb1)
  have hs1 := hp_lt KX.out
  clear hb1 HRL HB0 HB00 HX
  obtain ⟨c0, c1, c2, c3, c4, c5, f0, f1, f2, f3, f4, f5⟩ := blk6 KX.out
  cases r with
  | false =>
    clear hr
    go_wp2_with (fail)
    go_ret
    exact ⟨rfl, HB1.out⟩
  | true =>
    obtain ⟨z, b, n, hrok, h1⟩ := lets (hr rfl) HX1.out (by omega) (by omega)
    have hPb : P ≤ 300 := by have := (hr rfl).1; omega
    have hfc : f = 0 ∨ f = 1 := by rcases hrok.2.2 with h | h <;> omega
    obtain ⟨P0, rfl⟩ := Int.eq_ofNat_of_zero_le hp3.1
    have HRK := Aside0.mk hrok
    clear hrok h1 hr HX1
    cases inf with
    | true =>
      go_upto_region 9 with (go_in)
      have HBA := Aside0.mk (below_alloc (Below.refl w1.heap.size w1) (.cells #[.int .u64 5, .int .i64 0, .int .i64 2, .bool ng, .slice none 0 0, .int .i64 0] 26))
      have KY := Aside0.mk (show hp (w1.alloc (.cells #[.int .u64 5, .int .i64 0, .int .i64 2, .bool ng, .slice none 0 0, .int .i64 0] 26)) w1.heap.size = some (.cells #[.int .u64 5, .int .i64 0, .int .i64 2, .bool ng, .slice none 0 0, .int .i64 0] 26 (0, 0)) from (by simp (disch := first | omega | (simp; omega) | (simp; done) | fail) [hp_new, hp_old, hp_here, hp_other, setObj_cells, hp_drew, hp_drewN]))
      obtain ⟨w2, hw2⟩ : ∃ w2, w2 = w1.alloc (.cells #[.int .u64 5, .int .i64 0, .int .i64 2, .bool ng, .slice none 0 0, .int .i64 0] 26) := ⟨_, rfl⟩
      rw [← hw2] at HBA KY ⊢
      have HRK2 := Aside0.mk (HRK.out.below HBA.out)
      have KX2 := Aside0.mk (hp_below KX.out HBA.out)
      have HB2 := Aside0.mk (HB1.out.trans (HBA.out.mono (by omega)))
      have hs2 : w1.heap.size < w2.heap.size := hp_lt KY.out
      clear hw2 HBA HRK KX HB1 c0 c1 c2 c3 c4 c5 f0 f1 f2 f3 f4 f5
      obtain ⟨c0, c1, c2, c3, c4, c5, f0, f1, f2, f3, f4, f5⟩ := blk6 KX2.out
      obtain ⟨d0, d1, d2, d3, d4, d5, _, _, _, _, _, _⟩ := blk6 KY.out
      have hq : qf f 2 = 0 := by simp [qf]
      have hop := op_c P0 P m0 m f 2 neg ng A X.length c x z b n X w2 HRK2.out (by omega) (by omega) (by omega) hm3
      rw [hq] at hop
      have HOP := Aside0.mk hop
      clear hop hq HRK2
      go_wp2_with (fail)
      refine (HOP.out).mono ?_
      rintro e w3 ⟨P', A', cc', rfl, hb3⟩
      have KX3 := Aside0.mk (hp_below KX2.out hb3)
      have HB3 := Aside0.mk (below_step HB2.out hb3)
      have hs3 : w.heap.size < w3.heap.size := hp_lt KX3.out
      clear hb3 HOP KX2 HB2 KY c0 c1 c2 c3 c4 c5 f0 f1 f2 f3 f4 f5 d0 d1 d2 d3 d4 d5
      obtain ⟨c0, c1, c2, c3, c4, c5, f0, f1, f2, f3, f4, f5⟩ := blk6 KX3.out
      go_wp2_with (fail)
      go_ret
      exact ⟨rfl, below_alloc HB3.out _⟩
    | false =>
      by_cases h0 : f = 0
      · subst h0
        go_wp2_with ((fail_if_success go_at_call 13); go_in)
        go_ret
        exact ⟨rfl, below_alloc HB1.out _⟩
      have hf1 : f = 1 := by omega
      subst hf1
      clear hfc h0 h2 h2b
      have HFF : Aside0 (((1 : Int) = 0 ∧ (0 : Int) = 2) ∨ ((1 : Int) = 1 ∧ (0 : Int) = 0) ∨ ((1 : Int) = 1 ∧ (0 : Int) = 2)) := ⟨by omega⟩
      go_upto_region 9 with (go_in)
      have HBA := Aside0.mk (below_alloc (Below.refl w1.heap.size w1) (.cells #[.int .u64 5, .int .i64 0, .int .i64 0, .bool ng, .slice none 0 0, .int .i64 0] 26))
      have KY := Aside0.mk (show hp (w1.alloc (.cells #[.int .u64 5, .int .i64 0, .int .i64 0, .bool ng, .slice none 0 0, .int .i64 0] 26)) w1.heap.size = some (.cells #[.int .u64 5, .int .i64 0, .int .i64 0, .bool ng, .slice none 0 0, .int .i64 0] 26 (0, 0)) from (by simp (disch := first | omega | (simp; omega) | (simp; done) | fail) [hp_new, hp_old, hp_here, hp_other, setObj_cells, hp_drew, hp_drewN]))
      obtain ⟨w2, hw2⟩ : ∃ w2, w2 = w1.alloc (.cells #[.int .u64 5, .int .i64 0, .int .i64 0, .bool ng, .slice none 0 0, .int .i64 0] 26) := ⟨_, rfl⟩
      rw [← hw2] at HBA KY ⊢
      have HRK2 := Aside0.mk (HRK.out.below HBA.out)
      have KX2 := Aside0.mk (hp_below KX.out HBA.out)
      have HB2 := Aside0.mk (HB1.out.trans (HBA.out.mono (by omega)))
      have hs2 : w1.heap.size < w2.heap.size := hp_lt KY.out
      clear hw2 HBA HRK KX HB1 c0 c1 c2 c3 c4 c5 f0 f1 f2 f3 f4 f5
      obtain ⟨c0, c1, c2, c3, c4, c5, f0, f1, f2, f3, f4, f5⟩ := blk6 KX2.out
      obtain ⟨d0, d1, d2, d3, d4, d5, _, _, _, _, _, _⟩ := blk6 KY.out
      have hq : qf 1 0 = 2 := by simp [qf]
      have hop := op_c P0 P m0 m 1 0 neg ng A X.length c x z b n X w2 HRK2.out (by omega) (by omega) (by omega) hm3
      rw [hq] at hop
      have HOP := Aside0.mk hop
      clear hop hq HRK2
      go_wp2_with (fail)
      refine (HOP.out).mono ?_
      rintro e w3 ⟨P', A', cc', rfl, hb3⟩
      have KX3 := Aside0.mk (hp_below KX2.out hb3)
      have HB3 := Aside0.mk (below_step HB2.out hb3)
      have hs3 : w.heap.size < w3.heap.size := hp_lt KX3.out
      clear hb3 HOP KX2 HB2 KY c0 c1 c2 c3 c4 c5 f0 f1 f2 f3 f4 f5 d0 d1 d2 d3 d4 d5
      obtain ⟨c0, c1, c2, c3, c4, c5, f0, f1, f2, f3, f4, f5⟩ := blk6 KX3.out
      go_wp2_with (fail)
      go_ret
      exact ⟨rfl, below_alloc HB3.out _⟩
end Go.Proofs.YtglikgjaobedbaaGreatDoor.fnByZero
