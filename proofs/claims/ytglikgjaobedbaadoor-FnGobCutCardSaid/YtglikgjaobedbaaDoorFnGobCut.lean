/-
  FnGobCut holds for every input.
-/
import Derived.Test.YtglikgjaobedbaaDoorGobZ
namespace Go.Proofs.YtglikgjaobedbaaDoor.fnGobCut
open Go.RowKit Go.Proofs.YtglikgjaobedbaaDoorW.PrintWords Go.Proofs.YtglikgjaobedbaaDoorW.PrintLast Go.Proofs.YtglikgjaobedbaaDoorW.PrintMore Go.Proofs.YtglikgjaobedbaaDoor.Dig Go.Proofs.YtglikgjaobedbaaDoor.Sp
set_option linter.unusedVariables false
set_option linter.unusedSimpArgs false
theorem cut_c (gb p : Nat) (m : Int) (neg : Bool) (E : Int) (L : List Int) (N n : Nat) (w : World) (hg : hp w gb = some (.cells (u8s (encF p m neg E L)) 5 (0, 0))) (hN : N = (encF p m neg E L).length) (hNb : N ≤ 900000) (hm : 0 ≤ m ∧ m < 6) (h1 : 1 ≤ n) (h9 : n ≤ 9) :
    Calls Tryd.prog 30 #[.int .u64 0, .int .i64 0, .slice (some ⟨gb, 0, none⟩) n N] w fun e w' => e = .returned (.tuple #[.agg #[.int .u64 0, .int .i64 0, .int .i64 0, .bool false, .slice none 0 0, .int .i64 0], .int .i64 0, .bool false]) ∧ Below w.heap.size w w' := by
  have hlN := encF_len p m neg E L
  have hC := enc_C (w := w) 0 (encF p m neg E L) hg (by omega)
  have hC2 := C_sub hC 0 n (by omega)
  rw [add_spot, List.drop_zero] at hC2
  have hl : ((encF p m neg E L).take n).length = n := by rw [List.length_take]; omega
  have hok := okd_take (encF_ok p m hm neg E L) n
  by_cases h6 : n < 6
  · exact gobBack_cut1 gb n N _ w hC2 hl.symm h1 h6 (by omega)
  · refine gobBack_cut2 gb n N m neg _ w hC2 hl.symm (by omega) (by omega) (by omega) ?_ ?_ hok hm
    · obtain ⟨k, rfl⟩ : ∃ k, n = k + 1 := ⟨n - 1, by omega⟩
      rfl
    · obtain ⟨k, rfl⟩ : ∃ k, n = k + 1 + 1 := ⟨n - 2, by omega⟩
      rfl
set_option maxHeartbeats 6400000 in
set_option maxRecDepth 100000 in
theorem walk (p m f : Int) (neg : Bool) (v : Value) (X : List Int) (x : Int) (a : Int) (ha : (Lit.int .u8 a).wf = true) (w : World) (hv : InInts .u64 w v X) (hp : (Lit.int .u64 p).wf = true) (hm : (Lit.int .i64 m).wf = true) (hf : (Lit.int .i64 f).wf = true) (hx : (Lit.int .i64 x).wf = true) (hT : Tb w) :
    Calls Tryd.prog 10 #[.agg #[.int .u64 p, .int .i64 m, .int .i64 f, .bool neg, v, .int .i64 x], .int .u8 a] w fun e w' => e = .returned (.bool true) ∧ Below w.heap.size w w' := by
  have hws := ws_in hv
  obtain ⟨A, c, rfl, _⟩ := hv
  have hpp := wf_u64 hp
  have ha2 := wf_u8 ha
  obtain ⟨k, hk1⟩ : ∃ k : Int, k = a % 9 := ⟨_, rfl⟩
  have hk2 : a % 9 = k := hk1.symm
  obtain ⟨n0, hn0⟩ := Int.eq_ofNat_of_zero_le (show 0 ≤ 1 + k by omega)
  have hn1 : 1 ≤ n0 ∧ n0 ≤ 9 := by omega
  clear hp hm hf hx ha hk1
  obtain ⟨P, rfl⟩ := Int.eq_ofNat_of_zero_le hpp.1
  have hu := Tryd.underlying28
  have HB0 := Aside0.mk (below_alloc (below_alloc (below_alloc (Below.refl w.heap.size w) (.cells #[.int .u64 P, .int .i64 m, .int .i64 f, .bool neg, .slice A X.length c, .int .i64 x] 28)) (.cells #[.int .u64 P, .int .i64 m, .int .i64 f, .bool neg, .slice A X.length c, .int .i64 x] 28)) (.cells #[.int .u64 P, .int .i64 m, .int .i64 f, .bool neg, .slice A X.length c, .int .i64 x] 28))
  have HX := Aside0.mk (hws.below HB0.out)
  have HT := Aside0.mk (hT.below HB0.out hT.2)
  clear hws
  have hgT : 2 < w.heap.size := hT.2
  clear hT
  by_cases hbb : 2147483647 < X.length
  · go_enter Tryd.func10, Tryd.ntmps10
    go_wp2_with ((fail_if_success go_at_call 21); go_in)
    go_ret
    exact ⟨rfl, below_alloc (below_alloc (Below.refl _ _) _) _⟩
  by_cases hf1 : f = 1
  case neg =>
    have e1 : (f == 1) = false := by simp [hf1]
    go_enter Tryd.func10, Tryd.ntmps10
    go_wp2_with ((fail_if_success go_at_call 21); go_in)
    go_ret
    exact ⟨rfl, HB0.out⟩
  subst hf1
  have HRL := Aside0.mk (real_l 200 300 P m 1 x neg A c X _ HX.out (by omega) (by omega) (by omega))
  go_enter Tryd.func10, Tryd.ntmps10
  go_wp2_with ((fail_if_success go_at_call 21); (fail_if_success go_at_call 29); (fail_if_success go_at_call 30); go_in)
  refine (HRL.out).mono ?_
  rintro e w1 ⟨r, rfl, hr, hb1⟩
  have KX := Aside0.mk (hp_below (show hp _ w.heap.size = some (.cells #[.int .u64 P, .int .i64 m, .int .i64 1, .bool neg, .slice A X.length c, .int .i64 x] 28 (0, 0)) from (by simp (disch := first | omega | (simp; omega) | (simp; done) | fail) [hp_new, hp_old, hp_here, hp_other, setObj_cells, hp_drew, hp_drewN])) hb1)
  have HB1 := Aside0.mk (below_step HB0.out hb1)
  have HX1 := Aside0.mk (HX.out.below hb1)
  have HT1 := Aside0.mk (HT.out.below hb1 HT.out.2)
  have hs1 := hp_lt KX.out
  clear hb1 HRL HB0 HX HT
  obtain ⟨c0, c1, c2, c3, c4, c5, f0, f1, f2, f3, f4, f5⟩ := blk6 KX.out
  cases r with
  | false =>
    clear hr
    go_wp2_with (fail)
    go_ret
    exact ⟨rfl, HB1.out⟩
  | true =>
    obtain ⟨⟨t1, t2, t3, t4⟩, t5⟩ := hr rfl
    obtain ⟨_, t6, t7, ⟨b, t8, t9⟩, t10, t11⟩ : (1 : Int) = 1 ∧ (X.length : Int) ≤ ((P : Int) + 63) / 64 ∧ 0 < ev BW X ∧ (∃ b : Nat, Bits (ev BW X) b ∧ (b : Int) ≤ P) ∧ -300 ≤ x ∧ x ≤ 300 := by
      rcases t5 with h | h
      · omega
      · exact h
    have HGB := Aside0.mk (gob_fin P b m neg A X.length c x (ev BW X) X w1 HX1.out (by omega) rfl t7 t8 (by omega) (by omega) (by omega) (by omega))
    have hP1 : 1 ≤ P ∧ P ≤ 200 := by omega
    have hm1 : 0 ≤ m ∧ m < 6 := by omega
    clear hr t1 t2 t3 t4 t5 t6 t7 t8 t9 t10 t11
    go_wp2_with (fail)
    refine (HGB.out).mono ?_
    rintro e w2 ⟨gb, N, E, L, hN, rfl, hg2, hcan, hE1, hE2, hb2⟩
    have hlN := encF_len P m neg E L
    have hNl : N = 10 + 8 * L.length := by omega
    have hcl := hcan.len
    have HB2 := Aside0.mk (below_step HB1.out hb2)
    have HT2 := Aside0.mk (HT1.out.below hb2 HT1.out.2)
    have HG2 := Aside0.mk hg2
    have HBK := Aside0.mk (gobBack_fin gb P m neg E L N w2 hg2 hN hcan (by omega) hm1 ⟨hE1, hE2⟩ HT2.out)
    have HN := Aside0.mk hN
    have hN10 : 10 ≤ N ∧ N ≤ 900000 := by omega
    clear hb2 hg2 hcan hN hlN hNl hcl HGB HB1 HT1 HX1 KX c0 c1 c2 c3 c4 c5 f0 f1 f2 f3 f4 f5
    go_wp2_with (fail)
    refine (HBK.out).mono ?_
    rintro e w3 ⟨A2, mm2, cc2, q2, rfl, hb3⟩
    have HB3 := Aside0.mk (below_step HB2.out hb3)
    have hba := below_alloc (Below.refl w3.heap.size w3) (.cells #[.int .u64 P, .int .i64 m, .int .i64 1, .bool neg, .slice A2 mm2 cc2, .int .i64 q2] 28)
    have HB4 := Aside0.mk (HB3.out.trans (hba.mono HB3.out.size))
    have hd : decide ((N : Int) < (n0 : Int)) = false := decide_eq_false (by omega)
    have hn3 : (n0 : Int) ≤ (N : Int) := by omega
    have hn4 : (0 : Int) ≤ (n0 : Int) := by omega
    have HCT := Aside0.mk (cut_c gb P m neg E L N n0 _ (hp_below (hp_below HG2.out hb3) hba) HN.out hN10.2 hm1 hn1.1 hn1.2)
    clear hb3 hba HBK HG2 HB2 HT2
    go_wp2_with (fail)
    refine (HCT.out).mono ?_
    rintro e w4 ⟨rfl, hb4⟩
    have HB5 := Aside0.mk (below_step HB4.out hb4)
    clear hb4 HCT
    go_wp2_with (fail)
    go_ret
    exact ⟨rfl, below_alloc HB5.out _⟩
end Go.Proofs.YtglikgjaobedbaaDoor.fnGobCut
