/-
  CONTRACT of Float.Append at nought for the format g (no sign).
-/
import Derived.Test.YtnbnfjpecgbnpaaGreatDoorTextE
import Derived.Test.YtnbnfjpecgbnpaaGreatDoorTextF
namespace Go.Proofs.YtnbnfjpecgbnpaaGreatDoor.Sp
open Go.RowKit Go.Proofs.YtnbnfjpecgbnpaaGreatDoorW.PrintWords Go.Proofs.YtnbnfjpecgbnpaaGreatDoorW.PrintLast Go.Proofs.YtnbnfjpecgbnpaaGreatDoorW.PrintMore Go.Proofs.YtnbnfjpecgbnpaaGreatDoor.Dig
set_option linter.unusedVariables false
set_option linter.unusedSimpArgs false
set_option maxHeartbeats 3200000 in
set_option maxRecDepth 100000 in
theorem app_g_false (g p : Nat) (k m : Int) (W0 w : World) (v : Value) (l : List Int) (h : Spc w g p m 0 false) (hb : Bu W0 w v l) (hg : g < W0.heap.size) (hl : l.length ≤ 900000) (hk : 0 < k ∧ k ≤ 1000000) :
    Calls Tryz.prog 34 #[.pointer (some ⟨g, 0, none⟩), v, .int .u8 103, .int .i64 k] w (BuPost W0 (l ++ [48])) := by
  have HBD : Aside0 (Bu W0 (w.alloc (.cells #[.slice none 0 0, .int .i64 0] 86)) v l) := ⟨hb.alloc _⟩
  have HKD : Aside0 (Dec0 (w.alloc (.cells #[.slice none 0 0, .int .i64 0] 86)) w.heap.size) := ⟨hp_new _ _ _ rfl⟩
  have HNL : Aside0 (l.length ≤ 900000) := ⟨hl⟩
  have hkn : ¬ k < 0 := by omega
  have hkb : (k == 0) = false := by rw [beq_eq_false_iff_ne]; omega
  have hkp : 0 < k := hk.1
  have hu := Tryz.underlying86
  obtain ⟨c0, c1, c2, c3, c4, c5, c6, f0, f1, f2, f3, f4, f5, f6⟩ := blk7 h.blk
  have lg := hp_lt h.blk
  clear h hb
  go_enter Tryz.func34, Tryz.ntmps34
  go_wp2_with (first | (go_at_call 54; refine (round0 _ _ _ HKD.out).mono ?_; rintro e wr ⟨rfl, hbr⟩; have HBR := Aside0.mk (HBD.out.below hbr); have HKR := Aside0.mk (hp_below HKD.out hbr); obtain ⟨d0, d1, g0, g1⟩ := blk2 HKR.out; have lgd := hp_lt HKR.out; have HF : Aside0 (Calls Tryz.prog 56 #[v, .int .i64 0, .agg #[.slice none 0 0, .int .i64 0]] wr (BuPost W0 (l ++ [48] ++ zt 0))) := Aside0.mk (fmtF0 0 W0 wr v l HBR.out (by have := HNL.out; omega) (by omega)); clear hbr) | (go_at_call 56; refine HF.out.mono ?_; rintro e w2 ⟨v2, rfl, hb2⟩; have HB2 := Aside0.mk hb2; clear hb2) | fail)
  go_ret
  exact ⟨_, rfl, by have h := HB2.out; simpa [zt] using h⟩
set_option maxHeartbeats 3200000 in
set_option maxRecDepth 100000 in
theorem app_g_true (g p : Nat) (k m : Int) (W0 w : World) (v : Value) (l : List Int) (h : Spc w g p m 0 true) (hb : Bu W0 w v l) (hg : g < W0.heap.size) (hl : l.length ≤ 800000) (hk : 0 < k ∧ k ≤ 1000000) :
    Calls Tryz.prog 34 #[.pointer (some ⟨g, 0, none⟩), v, .int .u8 103, .int .i64 k] w (BuPost W0 ((l ++ [45]) ++ [48])) := by
  have HS : Aside0 (∀ w1 v1 l1, Bu W0 w1 v1 l1 → Spc w1 g p m 0 true) := ⟨fun w1 v1 l1 h1 => (h1.bel.block g hg).trans ((hb.bel.block g hg).symm.trans h)⟩
  have HB := Aside0.mk hb
  have hkn : ¬ k < 0 := by omega
  have hkb : (k == 0) = false := by rw [beq_eq_false_iff_ne]; omega
  have hkp : 0 < k := hk.1
  have hu := Tryz.underlying86
  obtain ⟨c0, c1, c2, c3, c4, c5, c6, f0, f1, f2, f3, f4, f5, f6⟩ := blk7 h.blk
  have lg := hp_lt h.blk
  clear h hb
  go_enter Tryz.func34, Tryz.ntmps34
  go_wp2_with (with_reducible refine bu_byte rfl _ _ rfl W0 v l 45 rfl ?h1 rfl ?h2 ?h3)
  case h1 => exact HB.out
  case h2 => exact Nat.le_trans hl (by omega)
  case h3 =>
    intro v1 w1 hb1
    obtain ⟨l1, hl1⟩ : ∃ l1, l1 = l ++ [45] := ⟨_, rfl⟩
    rw [← hl1] at hb1
    have HL1 := Aside0.mk hl1
    have HNL : Aside0 (l1.length ≤ 900000) := ⟨by rw [hl1]; simp; omega⟩
    have HBD : Aside0 (Bu W0 (w1.alloc (.cells #[.slice none 0 0, .int .i64 0] 86)) v1 l1) := ⟨hb1.alloc _⟩
    have HKD : Aside0 (Dec0 (w1.alloc (.cells #[.slice none 0 0, .int .i64 0] 86)) w1.heap.size) := ⟨hp_new _ _ _ rfl⟩
    have hs1 := HS.out w1 v1 _ hb1
    clear c0 c1 c2 c3 c4 c5 c6 f0 f1 f2 f3 f4 f5 f6 lg hl1
    obtain ⟨c0, c1, c2, c3, c4, c5, c6, f0, f1, f2, f3, f4, f5, f6⟩ := blk7 hs1.blk
    have lg := hp_lt hs1.blk
    clear hb1 hs1
    go_wp2_with (first | (go_at_call 54; refine (round0 _ _ _ HKD.out).mono ?_; rintro e wr ⟨rfl, hbr⟩; have HBR := Aside0.mk (HBD.out.below hbr); have HKR := Aside0.mk (hp_below HKD.out hbr); obtain ⟨d0, d1, g0, g1⟩ := blk2 HKR.out; have lgd := hp_lt HKR.out; have HF : Aside0 (Calls Tryz.prog 56 #[v1, .int .i64 0, .agg #[.slice none 0 0, .int .i64 0]] wr (BuPost W0 (l1 ++ [48] ++ zt 0))) := Aside0.mk (fmtF0 0 W0 wr v1 l1 HBR.out (by have := HNL.out; omega) (by omega)); clear hbr) | (go_at_call 56; refine HF.out.mono ?_; rintro e w2 ⟨v2, rfl, hb2⟩; have HB2 := Aside0.mk hb2; clear hb2) | fail)
    go_ret
    exact ⟨_, rfl, by have h := HB2.out; rw [HL1.out] at h; simpa [zt] using h⟩
end Go.Proofs.YtnbnfjpecgbnpaaGreatDoor.Sp
