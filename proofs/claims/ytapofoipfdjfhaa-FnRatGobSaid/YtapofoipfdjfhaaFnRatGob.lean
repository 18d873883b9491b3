/-
  FnRatGob holds for every input.
-/
import Derived.Test.YtapofoipfdjfhaaGobAll
namespace Go.Proofs.Ytapofoipfdjfhaa.fnRatGob
open Go.RowKit Go.Proofs.YtapofoipfdjfhaaW.PrintWords Go.Proofs.YtapofoipfdjfhaaW.PrintLast Go.Proofs.YtapofoipfdjfhaaW.PrintMore Go.Proofs.Ytapofoipfdjfhaa.Dig Go.Proofs.Ytapofoipfdjfhaa.Sp
set_option linter.unusedVariables false
set_option linter.unusedSimpArgs false
theorem isFrac_true (b neg : Bool) (A A2 A' A2' : Option Addr) (m c m2 c2 m' c' m2' c2' : Nat) (n d : Int) (w : World) (h : Wd w (.slice A m c) n) (h2 : Wd w (.slice A2 m2 c2) d) (h' : Dg w (.slice A' m' c') n) (h2' : Dg w (.slice A2' m2' c2') d) (hn : n < Lim) (hd : d < Lim) (hs : b = (neg && decide (0 < n))) :
    Calls Try.prog 19 #[.agg #[.bool b, .slice A m c, .slice A2 m2 c2], .agg #[.bool neg, .slice A' m' c', .slice A2' m2' c2']] w fun e w' => e = .returned (.bool true) ∧ Below w.heap.size w w' := by
  obtain ⟨_, _, x, e, q2, q3, q4, q5⟩ := h
  injection e with e1 e2 e3
  subst e1 e2 e3
  obtain ⟨_, _, y, e, r2, r3, r4, r5⟩ := h2
  injection e with e1 e2 e3
  subst e1 e2 e3
  refine (isFraction_c b neg A A2 A' A2' x.length c y.length c2 m' c' m2' c2' x y n d w ⟨_, _, rfl, q2, q3, q4.ok⟩ ⟨_, _, rfl, r2, r3, r4.ok⟩ h' h2' hn hd).mono ?_
  rintro e w' ⟨r, rfl, hr, hb⟩
  have : r = true := hr.2 ⟨⟨hs, q4, q5⟩, r4, r5⟩
  subst this
  exact ⟨rfl, hb⟩
set_option maxHeartbeats 3200000 in
set_option maxRecDepth 100000 in
theorem walk (n : Bool) (v : Value) (l : List Int) (v' : Value) (l' : List Int) (a : Int) (ha : (Lit.int .u8 a).wf = true) (w : World) (hv : InInts .u64 w v l) (hv' : InInts .u64 w v' l') :
    Calls Try.prog 5 #[.agg #[.bool n, v, v'], .int .u8 a] w fun e w' => e = .returned (.bool true) ∧ Below w.heap.size w w' := by
  obtain ⟨A, c, rfl, h1, h2, h3⟩ := ws_in hv
  obtain ⟨A', c', rfl, k1, k2, k3⟩ := ws_in hv'
  have hr := wf_u8 ha
  have hbx := below_alloc (below_alloc (below_alloc (Below.refl w.heap.size w) (.cells #[.bool n, .slice A l.length c, .slice A' l'.length c'] 37)) (.cells #[.bool n, .slice A l.length c, .slice A' l'.length c'] 37)) (.cells #[.bool n, .slice A l.length c] 24)
  have HX := Aside0.mk ((show Ws w (.slice A l.length c) l from ⟨A, c, rfl, h1, h2, h3⟩).below hbx)
  have HY := Aside0.mk ((show Ws w (.slice A' l'.length c') l' from ⟨A', c', rfl, k1, k2, k3⟩).below hbx)
  have HB := Aside0.mk hbx
  clear ha hv hv' h1 h2 h3 k1 k2 k3 hbx
  have hu := Try.underlying37
  have hu2 := Try.underlying45
  have hu3 := Try.underlying24
  by_cases hb1 : 2147483647 < l.length
  · go_enter Try.func5, Try.ntmps5
    go_wp2_with ((fail_if_success go_at_call 16); go_in)
    go_ret
    exact ⟨rfl, HB.out⟩
  · by_cases hb2 : 2147483647 < l'.length
    · go_enter Try.func5, Try.ntmps5
      go_wp2_with ((fail_if_success go_at_call 16); go_in)
      go_ret
      exact ⟨rfl, HB.out⟩
    · go_enter Try.func5, Try.ntmps5
      go_wp2_with ((fail_if_success go_at_call 16); go_in)
      refine (lfraction_c n A A' c c' l l' 20 _ HX.out HY.out (by omega)).mono ?_
      rintro e w1 ⟨r, s, A1, m1, c1, A2, m2, c2, rfl, hr1, hb⟩
      have k0 := hp_below (show hp _ w.heap.size = some (.cells #[.bool n, .slice A l.length c, .slice A' l'.length c'] 37 (0, 0)) from (by simp (disch := first | omega | (simp; omega) | (simp; done) | fail) [hp_new, hp_old, hp_here, hp_other, setObj_cells, hp_drew, hp_drewN])) hb
      replace HX := Aside0.mk (HX.out.below hb)
      replace HY := Aside0.mk (HY.out.below hb)
      replace HB := Aside0.mk (below_step HB.out hb)
      have K0 := Aside0.mk k0
      have HR := Aside0.mk hr1
      have hs0 := hp_lt k0
      obtain ⟨q0, q1, q2, _, _, _⟩ := blk3 k0
      clear hb k0 hr1
      cases r with
      | false =>
        go_wp2_with (fail)
        go_ret
        exact ⟨rfl, below_alloc HB.out _⟩
      | true =>
        obtain ⟨rfl, hok, hl, hl', hd0, hx, hy⟩ := HR.out rfl
        have hsg := hok.1.1
        have hb5 := below_alloc (Below.refl w1.heap.size w1) (.cells #[.bool s, .slice A1 m1 c1, .slice A2 m2 c2] 45)
        have k5 : hp (w1.alloc (.cells #[.bool s, .slice A1 m1 c1, .slice A2 m2 c2] 45)) w1.heap.size = some (.cells #[.bool s, .slice A1 m1 c1, .slice A2 m2 c2] 45 (0, 0)) := hp_new _ _ _ rfl
        have K5 := Aside0.mk k5
        replace K0 := Aside0.mk (hp_below K0.out hb5)
        replace HX := Aside0.mk (HX.out.below hb5)
        replace HY := Aside0.mk (HY.out.below hb5)
        have HP := Aside0.mk (hx.below hb5)
        have HQ := Aside0.mk (hy.below hb5)
        replace HB := Aside0.mk (below_step HB.out hb5)
        have HN := Aside0.mk (show ev BW l < Lim ∧ ev BW l' < Lim ∧ 0 < ev BW l' by
          obtain ⟨_, _, _, _, _, q⟩ := HX.out
          obtain ⟨_, _, _, _, _, q2⟩ := HY.out
          exact ⟨words_Lim q (by omega), words_Lim q2 (by omega), hd0⟩)
        have HSG := Aside0.mk hsg
        clear hb5 k5 hx hy hok HR hd0 hsg
        go_wp2_with ((fail_if_success go_at_call 17); go_in)
        refine (ratGob_c s A A' l.length c l'.length c' l l' _ HX.out HY.out (by omega) (by omega)).mono ?_
        rintro e w2 ⟨ad, cc, D, E, rfl, hC, hlc, d1, d2, d3, d4, d5, d6, hb⟩
        rw [← HSG.out] at hC hlc ⊢
        have hlen := enc_len s D E
        have HF := Aside0.mk (And.intro d1 (And.intro d2 (And.intro d3 (And.intro d4 (And.intro d5 d6)))))
        obtain ⟨N, hN⟩ : ∃ N, N = (enc s D E).length := ⟨_, rfl⟩
        have HNN := Aside0.mk hN
        have hN5 : 5 ≤ N := by omega
        have hNc : N ≤ cc := by omega
        have hNM : N ≤ 500000 := by omega
        have HLC := Aside0.mk hlc
        rw [← hN]
        have HC := Aside0.mk hC
        replace K0 := Aside0.mk (hp_below K0.out hb)
        replace K5 := Aside0.mk (hp_below K5.out hb)
        replace HP := Aside0.mk (HP.out.below hb)
        replace HQ := Aside0.mk (HQ.out.below hb)
        replace HB := Aside0.mk (below_step HB.out hb)
        have hs5 := hp_lt K5.out
        clear hC hlc d1 d2 d3 d4 d5 d6 hb hlen hN HX HY
        go_wp2_with ((fail_if_success go_at_call 18); go_in)
        refine (ratGobBack_c ad cc N s D E (ev BW l) (ev BW l') _ HC.out HLC.out HF.out.1 HF.out.2.1 HF.out.2.2.1 HF.out.2.2.2.1 HN.out.2.2 HF.out.2.2.2.2.1 HF.out.2.2.2.2.2 HNN.out HN.out.1 HN.out.2.1).mono ?_
        rintro e w3 ⟨A6, m6, c6, A7, m7, c7, rfl, hx, hy, hb⟩
        rw [← HSG.out]
        have hb9 := below_alloc (Below.refl w3.heap.size w3) (.cells #[.bool s, .slice A6 m6 c6, .slice A7 m7 c7] 37)
        have hbb := below_step hb hb9
        have K9 : Aside0 (hp (w3.alloc (.cells #[.bool s, .slice A6 m6 c6, .slice A7 m7 c7] 37)) w3.heap.size = some (.cells #[.bool s, .slice A6 m6 c6, .slice A7 m7 c7] 37 (0, 0))) := ⟨hp_new _ _ _ rfl⟩
        replace K5 := Aside0.mk (hp_below K5.out hbb)
        replace HC := Aside0.mk (Kd.C_below HC.out hbb)
        replace HP := Aside0.mk (HP.out.below hbb)
        replace HQ := Aside0.mk (HQ.out.below hbb)
        replace HB := Aside0.mk (below_step HB.out hbb)
        have HU := Aside0.mk (hx.below hb9)
        have HV := Aside0.mk (hy.below hb9)
        obtain ⟨z0, z1, z2, _, _, _⟩ := blk3 K5.out
        have hs6 : w1.heap.size < w3.heap.size := Nat.lt_of_lt_of_le hs5 hb.size
        have z0' : w3.cell? ⟨w1.heap.size, 0, none⟩ = some (.bool s) := by rw [← z0]; exact (hb9.cell (p := ⟨w1.heap.size, 0, none⟩) hs6).symm
        have z1' : w3.cell? ⟨w1.heap.size, 1, none⟩ = some (.slice A1 m1 c1) := by rw [← z1]; exact (hb9.cell (p := ⟨w1.heap.size, 1, none⟩) hs6).symm
        have z2' : w3.cell? ⟨w1.heap.size, 2, none⟩ = some (.slice A2 m2 c2) := by rw [← z2]; exact (hb9.cell (p := ⟨w1.heap.size, 2, none⟩) hs6).symm
        clear hb hb9 hbb hx hy K0
        go_wp2_with ((fail_if_success go_at_call 19); go_in)
        refine (isFrac_true s s A6 A7 A1 A2 m6 c6 m7 c7 m1 c1 m2 c2 _ _ _ HU.out HV.out HP.out HQ.out HN.out.1 HN.out.2.1 HSG.out).mono ?_
        rintro e w4 ⟨rfl, hb⟩
        replace HC := Aside0.mk (Kd.C_below HC.out hb)
        replace HB := Aside0.mk (below_step HB.out hb)
        obtain ⟨q, hq⟩ : ∃ q : Nat, 1 + a % 4 = (q : Int) := ⟨(1 + a % 4).toNat, by omega⟩
        have hq1 : 1 ≤ q := by omega
        have hq4 : q ≤ 4 := by omega
        have hqN : q ≤ N := by omega
        have hqc : q ≤ cc := by omega
        have HCQ : Aside0 (Kd.C (Kd.int .u8) w4 (some ad) ((enc s D E).take q).length ((enc s D E).take q)) := ⟨C_take HC.out q (by rw [← HNN.out]; exact hqN)⟩
        have HQL : Aside0 (q = ((enc s D E).take q).length) := ⟨by rw [List.length_take, ← HNN.out]; omega⟩
        clear hb HC HU HV HP HQ K5 K9 z0 z1 z2 z0' z1' z2'
        rw [hq]
        go_wp2_with ((fail_if_success go_at_call 18); go_in)
        refine (ratGobBack_cut ad cc q ((enc s D E).take q) _ HCQ.out HQL.out hq1 hq4).mono ?_
        rintro e w5 ⟨rfl, hb⟩
        replace HB := Aside0.mk (below_step HB.out hb)
        clear hb HCQ HQL
        go_wp2_with (fail)
        go_ret
        exact ⟨rfl, (by repeat (first | (with_reducible first | exact HB.out | apply below_alloc | apply pw_below_drewN | apply below_drew1 | refine below_set ?_ (by simp)) | exact HB.out))⟩
end Go.Proofs.Ytapofoipfdjfhaa.fnRatGob
