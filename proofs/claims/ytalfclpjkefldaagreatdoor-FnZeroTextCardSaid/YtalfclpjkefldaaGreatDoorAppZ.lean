/-
  CONTRACTS of Float.Append at nought, for each format.
-/
import Derived.Test.YtalfclpjkefldaaGreatDoorTextE
import Derived.Test.YtalfclpjkefldaaGreatDoorTextF
namespace Go.Proofs.YtalfclpjkefldaaGreatDoor.Sp
open Go.RowKit Go.Proofs.YtalfclpjkefldaaGreatDoorW.PrintWords Go.Proofs.YtalfclpjkefldaaGreatDoorW.PrintLast Go.Proofs.YtalfclpjkefldaaGreatDoorW.PrintMore Go.Proofs.YtalfclpjkefldaaGreatDoor.Dig
set_option linter.unusedVariables false
set_option linter.unusedSimpArgs false
set_option maxHeartbeats 3200000 in
set_option maxRecDepth 100000 in
theorem app_b_true (g p k : Nat) (m : Int) (W0 w : World) (v : Value) (l : List Int) (h : Spc w g p m 0 true) (hb : Bu W0 w v l) (hg : g < W0.heap.size) (hl : l.length ≤ 900000) (hk : k ≤ 1000000) :
    Calls Tryz.prog 47 #[.pointer (some ⟨g, 0, none⟩), v, .int .u8 98, .int .i64 (k : Int)] w (BuPost W0 ((l ++ [45]) ++ [48])) := by
  have HS : Aside0 (∀ w1 v1 l1, Bu W0 w1 v1 l1 → Spc w1 g p m 0 true) := ⟨fun w1 v1 l1 h1 => (h1.bel.block g hg).trans ((hb.bel.block g hg).symm.trans h)⟩
  have HB := Aside0.mk hb
  obtain ⟨c0, c1, c2, c3, c4, c5, c6, f0, f1, f2, f3, f4, f5, f6⟩ := blk7 h.blk
  have lg := hp_lt h.blk
  clear h hb
  go_enter Tryz.func47, Tryz.ntmps47
  go_wp2_with (with_reducible refine bu_byte rfl _ _ rfl W0 v l 45 rfl ?h1 rfl ?h2 ?h3)
  case h1 => exact HB.out
  case h2 => exact Nat.le_trans hl (by omega)
  case h3 =>
    intro v1 w1 hb1
    obtain ⟨l1, hl1⟩ : ∃ l1, l1 = l ++ [45] := ⟨_, rfl⟩
    rw [← hl1] at hb1
    have HL1 := Aside0.mk hl1
    have HF := Aside0.mk (fmtB0 g p m true W0 w1 v1 l1 (HS.out w1 v1 _ hb1) hb1 (by rw [hl1]; simp; omega))
    have hs1 := HS.out w1 v1 _ hb1
    clear c0 c1 c2 c3 c4 c5 c6 f0 f1 f2 f3 f4 f5 f6 lg hl1
    obtain ⟨c0, c1, c2, c3, c4, c5, c6, f0, f1, f2, f3, f4, f5, f6⟩ := blk7 hs1.blk
    have lg := hp_lt hs1.blk
    clear hb1 hs1
    go_wp2_with (go_at_call 59; refine HF.out.mono ?_; rintro e w2 ⟨v2, rfl, hb2⟩; have HB2 := Aside0.mk hb2; clear hb2)
    go_ret
    exact ⟨_, rfl, by have h := HB2.out; rw [HL1.out] at h; simpa [List.append_assoc] using h⟩
set_option maxHeartbeats 3200000 in
set_option maxRecDepth 100000 in
theorem app_b_false (g p k : Nat) (m : Int) (W0 w : World) (v : Value) (l : List Int) (h : Spc w g p m 0 false) (hb : Bu W0 w v l) (hg : g < W0.heap.size) (hl : l.length ≤ 900000) (hk : k ≤ 1000000) :
    Calls Tryz.prog 47 #[.pointer (some ⟨g, 0, none⟩), v, .int .u8 98, .int .i64 (k : Int)] w (BuPost W0 (l ++ [48])) := by
  have HS : Aside0 (∀ w1 v1 l1, Bu W0 w1 v1 l1 → Spc w1 g p m 0 false) := ⟨fun w1 v1 l1 h1 => (h1.bel.block g hg).trans ((hb.bel.block g hg).symm.trans h)⟩
  have HB := Aside0.mk hb
  obtain ⟨c0, c1, c2, c3, c4, c5, c6, f0, f1, f2, f3, f4, f5, f6⟩ := blk7 h.blk
  have lg := hp_lt h.blk
  have HF := Aside0.mk (fmtB0 g p m false W0 w v l h hb (by omega))
  clear h hb
  go_enter Tryz.func47, Tryz.ntmps47
  go_wp2_with (go_at_call 59; refine HF.out.mono ?_; rintro e w1 ⟨v1, rfl, hb1⟩; have HB1 := Aside0.mk hb1; clear hb1)
  go_ret
  exact ⟨_, rfl, by have h := HB1.out; simpa [List.append_assoc] using h⟩
set_option maxHeartbeats 3200000 in
set_option maxRecDepth 100000 in
theorem app_p_true (g p k : Nat) (m : Int) (W0 w : World) (v : Value) (l : List Int) (h : Spc w g p m 0 true) (hb : Bu W0 w v l) (hg : g < W0.heap.size) (hl : l.length ≤ 900000) (hk : k ≤ 1000000) :
    Calls Tryz.prog 47 #[.pointer (some ⟨g, 0, none⟩), v, .int .u8 112, .int .i64 (k : Int)] w (BuPost W0 ((l ++ [45]) ++ [48])) := by
  have HS : Aside0 (∀ w1 v1 l1, Bu W0 w1 v1 l1 → Spc w1 g p m 0 true) := ⟨fun w1 v1 l1 h1 => (h1.bel.block g hg).trans ((hb.bel.block g hg).symm.trans h)⟩
  have HB := Aside0.mk hb
  obtain ⟨c0, c1, c2, c3, c4, c5, c6, f0, f1, f2, f3, f4, f5, f6⟩ := blk7 h.blk
  have lg := hp_lt h.blk
  clear h hb
  go_enter Tryz.func47, Tryz.ntmps47
  go_wp2_with (with_reducible refine bu_byte rfl _ _ rfl W0 v l 45 rfl ?h1 rfl ?h2 ?h3)
  case h1 => exact HB.out
  case h2 => exact Nat.le_trans hl (by omega)
  case h3 =>
    intro v1 w1 hb1
    obtain ⟨l1, hl1⟩ : ∃ l1, l1 = l ++ [45] := ⟨_, rfl⟩
    rw [← hl1] at hb1
    have HL1 := Aside0.mk hl1
    have HF := Aside0.mk (fmtP0 g p m true W0 w1 v1 l1 (HS.out w1 v1 _ hb1) hb1 (by rw [hl1]; simp; omega))
    have hs1 := HS.out w1 v1 _ hb1
    clear c0 c1 c2 c3 c4 c5 c6 f0 f1 f2 f3 f4 f5 f6 lg hl1
    obtain ⟨c0, c1, c2, c3, c4, c5, c6, f0, f1, f2, f3, f4, f5, f6⟩ := blk7 hs1.blk
    have lg := hp_lt hs1.blk
    clear hb1 hs1
    go_wp2_with (go_at_call 60; refine HF.out.mono ?_; rintro e w2 ⟨v2, rfl, hb2⟩; have HB2 := Aside0.mk hb2; clear hb2)
    go_ret
    exact ⟨_, rfl, by have h := HB2.out; rw [HL1.out] at h; simpa [List.append_assoc] using h⟩
set_option maxHeartbeats 3200000 in
set_option maxRecDepth 100000 in
theorem app_p_false (g p k : Nat) (m : Int) (W0 w : World) (v : Value) (l : List Int) (h : Spc w g p m 0 false) (hb : Bu W0 w v l) (hg : g < W0.heap.size) (hl : l.length ≤ 900000) (hk : k ≤ 1000000) :
    Calls Tryz.prog 47 #[.pointer (some ⟨g, 0, none⟩), v, .int .u8 112, .int .i64 (k : Int)] w (BuPost W0 (l ++ [48])) := by
  have HS : Aside0 (∀ w1 v1 l1, Bu W0 w1 v1 l1 → Spc w1 g p m 0 false) := ⟨fun w1 v1 l1 h1 => (h1.bel.block g hg).trans ((hb.bel.block g hg).symm.trans h)⟩
  have HB := Aside0.mk hb
  obtain ⟨c0, c1, c2, c3, c4, c5, c6, f0, f1, f2, f3, f4, f5, f6⟩ := blk7 h.blk
  have lg := hp_lt h.blk
  have HF := Aside0.mk (fmtP0 g p m false W0 w v l h hb (by omega))
  clear h hb
  go_enter Tryz.func47, Tryz.ntmps47
  go_wp2_with (go_at_call 60; refine HF.out.mono ?_; rintro e w1 ⟨v1, rfl, hb1⟩; have HB1 := Aside0.mk hb1; clear hb1)
  go_ret
  exact ⟨_, rfl, by have h := HB1.out; simpa [List.append_assoc] using h⟩
set_option maxHeartbeats 3200000 in
set_option maxRecDepth 100000 in
theorem app_x_true (g p k : Nat) (m : Int) (W0 w : World) (v : Value) (l : List Int) (h : Spc w g p m 0 true) (hb : Bu W0 w v l) (hg : g < W0.heap.size) (hl : l.length ≤ 900000) (hk : k ≤ 1000000) :
    Calls Tryz.prog 47 #[.pointer (some ⟨g, 0, none⟩), v, .int .u8 120, .int .i64 (k : Int)] w (BuPost W0 ((l ++ [45]) ++ ([48, 120, 48] ++ zt k ++ [112, 43, 48, 48]))) := by
  have HS : Aside0 (∀ w1 v1 l1, Bu W0 w1 v1 l1 → Spc w1 g p m 0 true) := ⟨fun w1 v1 l1 h1 => (h1.bel.block g hg).trans ((hb.bel.block g hg).symm.trans h)⟩
  have HB := Aside0.mk hb
  obtain ⟨c0, c1, c2, c3, c4, c5, c6, f0, f1, f2, f3, f4, f5, f6⟩ := blk7 h.blk
  have lg := hp_lt h.blk
  clear h hb
  go_enter Tryz.func47, Tryz.ntmps47
  go_wp2_with (with_reducible refine bu_byte rfl _ _ rfl W0 v l 45 rfl ?h1 rfl ?h2 ?h3)
  case h1 => exact HB.out
  case h2 => exact Nat.le_trans hl (by omega)
  case h3 =>
    intro v1 w1 hb1
    obtain ⟨l1, hl1⟩ : ∃ l1, l1 = l ++ [45] := ⟨_, rfl⟩
    rw [← hl1] at hb1
    have HL1 := Aside0.mk hl1
    have HF := Aside0.mk (fmtX0 g p k m true W0 w1 v1 l1 (HS.out w1 v1 _ hb1) hb1 (by rw [hl1]; simp; omega) hk)
    have hs1 := HS.out w1 v1 _ hb1
    clear c0 c1 c2 c3 c4 c5 c6 f0 f1 f2 f3 f4 f5 f6 lg hl1
    obtain ⟨c0, c1, c2, c3, c4, c5, c6, f0, f1, f2, f3, f4, f5, f6⟩ := blk7 hs1.blk
    have lg := hp_lt hs1.blk
    clear hb1 hs1
    go_wp2_with (go_at_call 61; refine HF.out.mono ?_; rintro e w2 ⟨v2, rfl, hb2⟩; have HB2 := Aside0.mk hb2; clear hb2)
    go_ret
    exact ⟨_, rfl, by have h := HB2.out; rw [HL1.out] at h; simpa [List.append_assoc] using h⟩
set_option maxHeartbeats 3200000 in
set_option maxRecDepth 100000 in
theorem app_x_false (g p k : Nat) (m : Int) (W0 w : World) (v : Value) (l : List Int) (h : Spc w g p m 0 false) (hb : Bu W0 w v l) (hg : g < W0.heap.size) (hl : l.length ≤ 900000) (hk : k ≤ 1000000) :
    Calls Tryz.prog 47 #[.pointer (some ⟨g, 0, none⟩), v, .int .u8 120, .int .i64 (k : Int)] w (BuPost W0 (l ++ ([48, 120, 48] ++ zt k ++ [112, 43, 48, 48]))) := by
  have HS : Aside0 (∀ w1 v1 l1, Bu W0 w1 v1 l1 → Spc w1 g p m 0 false) := ⟨fun w1 v1 l1 h1 => (h1.bel.block g hg).trans ((hb.bel.block g hg).symm.trans h)⟩
  have HB := Aside0.mk hb
  obtain ⟨c0, c1, c2, c3, c4, c5, c6, f0, f1, f2, f3, f4, f5, f6⟩ := blk7 h.blk
  have lg := hp_lt h.blk
  have HF := Aside0.mk (fmtX0 g p k m false W0 w v l h hb (by omega) hk)
  clear h hb
  go_enter Tryz.func47, Tryz.ntmps47
  go_wp2_with (go_at_call 61; refine HF.out.mono ?_; rintro e w1 ⟨v1, rfl, hb1⟩; have HB1 := Aside0.mk hb1; clear hb1)
  go_ret
  exact ⟨_, rfl, by have h := HB1.out; simpa [List.append_assoc] using h⟩
set_option maxHeartbeats 3200000 in
set_option maxRecDepth 100000 in
theorem app_e_false (g p k : Nat) (m : Int) (W0 w : World) (v : Value) (l : List Int) (h : Spc w g p m 0 false) (hb : Bu W0 w v l) (hg : g < W0.heap.size) (hl : l.length ≤ 900000) (hk : k ≤ 1000000) :
    Calls Tryz.prog 47 #[.pointer (some ⟨g, 0, none⟩), v, .int .u8 101, .int .i64 (k : Int)] w (BuPost W0 (l ++ ([48] ++ zt k ++ [101, 43, 48, 48]))) := by
  have HBD : Aside0 (Bu W0 (w.alloc (.cells #[.slice none 0 0, .int .i64 0] 92)) v l) := ⟨hb.alloc _⟩
  have HKD : Aside0 (Dec0 (w.alloc (.cells #[.slice none 0 0, .int .i64 0] 92)) w.heap.size) := ⟨hp_new _ _ _ rfl⟩
  have HNL : Aside0 (l.length ≤ 900000) := ⟨hl⟩
  have hkw : IntKind.i64.wrap (1 + (k : Int)) = 1 + (k : Int) := IntWalk.i64_in _ (by omega)
  have hkw2 : IntKind.i64.wrap (k : Int) = (k : Int) := IntWalk.i64_in _ (by omega)
  have hkn : ¬ (k : Int) < 0 := by omega
  have hu := Tryz.underlying92
  obtain ⟨c0, c1, c2, c3, c4, c5, c6, f0, f1, f2, f3, f4, f5, f6⟩ := blk7 h.blk
  have lg := hp_lt h.blk
  clear h hb
  go_enter Tryz.func47, Tryz.ntmps47
  go_wp2_with (first | (go_at_call 65; refine (round0 _ _ _ HKD.out).mono ?_; rintro e wr ⟨rfl, hbr⟩; have HBR := Aside0.mk (HBD.out.below hbr); have HKR := Aside0.mk (hp_below HKD.out hbr); obtain ⟨d0, d1, g0, g1⟩ := blk2 HKR.out; have lgd := hp_lt HKR.out; have HF := Aside0.mk (fmtE0 k 101 W0 wr v l HBR.out (by first | omega | (have := HNL.out; omega)) hk); clear hbr) | (go_at_call 66; refine HF.out.mono ?_; rintro e w2 ⟨v2, rfl, hb2⟩; have HB2 := Aside0.mk hb2; clear hb2) | fail)
  go_ret
  exact ⟨_, rfl, by have h := HB2.out; simpa [List.append_assoc] using h⟩
set_option maxHeartbeats 3200000 in
set_option maxRecDepth 100000 in
theorem app_f_false (g p k : Nat) (m : Int) (W0 w : World) (v : Value) (l : List Int) (h : Spc w g p m 0 false) (hb : Bu W0 w v l) (hg : g < W0.heap.size) (hl : l.length ≤ 900000) (hk : k ≤ 1000000) :
    Calls Tryz.prog 47 #[.pointer (some ⟨g, 0, none⟩), v, .int .u8 102, .int .i64 (k : Int)] w (BuPost W0 (l ++ ([48] ++ zt k))) := by
  have HBD : Aside0 (Bu W0 (w.alloc (.cells #[.slice none 0 0, .int .i64 0] 92)) v l) := ⟨hb.alloc _⟩
  have HKD : Aside0 (Dec0 (w.alloc (.cells #[.slice none 0 0, .int .i64 0] 92)) w.heap.size) := ⟨hp_new _ _ _ rfl⟩
  have HNL : Aside0 (l.length ≤ 900000) := ⟨hl⟩
  have hkw : IntKind.i64.wrap (1 + (k : Int)) = 1 + (k : Int) := IntWalk.i64_in _ (by omega)
  have hkw2 : IntKind.i64.wrap (k : Int) = (k : Int) := IntWalk.i64_in _ (by omega)
  have hkn : ¬ (k : Int) < 0 := by omega
  have hu := Tryz.underlying92
  obtain ⟨c0, c1, c2, c3, c4, c5, c6, f0, f1, f2, f3, f4, f5, f6⟩ := blk7 h.blk
  have lg := hp_lt h.blk
  clear h hb
  go_enter Tryz.func47, Tryz.ntmps47
  go_wp2_with (first | (go_at_call 65; refine (round0 _ _ _ HKD.out).mono ?_; rintro e wr ⟨rfl, hbr⟩; have HBR := Aside0.mk (HBD.out.below hbr); have HKR := Aside0.mk (hp_below HKD.out hbr); obtain ⟨d0, d1, g0, g1⟩ := blk2 HKR.out; have lgd := hp_lt HKR.out; have HF := Aside0.mk (fmtF0 k W0 wr v l HBR.out (by first | omega | (have := HNL.out; omega)) hk); clear hbr) | (go_at_call 67; refine HF.out.mono ?_; rintro e w2 ⟨v2, rfl, hb2⟩; have HB2 := Aside0.mk hb2; clear hb2) | fail)
  go_ret
  exact ⟨_, rfl, by have h := HB2.out; simpa [List.append_assoc] using h⟩
set_option maxHeartbeats 3200000 in
set_option maxRecDepth 100000 in
theorem app_e_true (g p k : Nat) (m : Int) (W0 w : World) (v : Value) (l : List Int) (h : Spc w g p m 0 true) (hb : Bu W0 w v l) (hg : g < W0.heap.size) (hl : l.length ≤ 800000) (hk : k ≤ 1000000) :
    Calls Tryz.prog 47 #[.pointer (some ⟨g, 0, none⟩), v, .int .u8 101, .int .i64 (k : Int)] w (BuPost W0 ((l ++ [45]) ++ ([48] ++ zt k ++ [101, 43, 48, 48]))) := by
  have HS : Aside0 (∀ w1 v1 l1, Bu W0 w1 v1 l1 → Spc w1 g p m 0 true) := ⟨fun w1 v1 l1 h1 => (h1.bel.block g hg).trans ((hb.bel.block g hg).symm.trans h)⟩
  have HB := Aside0.mk hb
  have hkw : IntKind.i64.wrap (1 + (k : Int)) = 1 + (k : Int) := IntWalk.i64_in _ (by omega)
  have hkw2 : IntKind.i64.wrap (k : Int) = (k : Int) := IntWalk.i64_in _ (by omega)
  have hkn : ¬ (k : Int) < 0 := by omega
  have hu := Tryz.underlying92
  obtain ⟨c0, c1, c2, c3, c4, c5, c6, f0, f1, f2, f3, f4, f5, f6⟩ := blk7 h.blk
  have lg := hp_lt h.blk
  clear h hb
  go_enter Tryz.func47, Tryz.ntmps47
  go_wp2_with (with_reducible refine bu_byte rfl _ _ rfl W0 v l 45 rfl ?h1 rfl ?h2 ?h3)
  case h1 => exact HB.out
  case h2 => exact Nat.le_trans hl (by omega)
  case h3 =>
    intro v1 w1 hb1
    obtain ⟨l1, hl1⟩ : ∃ l1, l1 = l ++ [45] := ⟨_, rfl⟩
    rw [← hl1] at hb1
    have HL1 := Aside0.mk hl1
    have HNL : Aside0 (l1.length ≤ 900000) := ⟨by rw [hl1]; simp; omega⟩
    have HBD : Aside0 (Bu W0 (w1.alloc (.cells #[.slice none 0 0, .int .i64 0] 92)) v1 l1) := ⟨hb1.alloc _⟩
    have HKD : Aside0 (Dec0 (w1.alloc (.cells #[.slice none 0 0, .int .i64 0] 92)) w1.heap.size) := ⟨hp_new _ _ _ rfl⟩
    have hs1 := HS.out w1 v1 _ hb1
    clear c0 c1 c2 c3 c4 c5 c6 f0 f1 f2 f3 f4 f5 f6 lg hl1
    obtain ⟨c0, c1, c2, c3, c4, c5, c6, f0, f1, f2, f3, f4, f5, f6⟩ := blk7 hs1.blk
    have lg := hp_lt hs1.blk
    clear hb1 hs1
    go_wp2_with (first | (go_at_call 65; refine (round0 _ _ _ HKD.out).mono ?_; rintro e wr ⟨rfl, hbr⟩; have HBR := Aside0.mk (HBD.out.below hbr); have HKR := Aside0.mk (hp_below HKD.out hbr); obtain ⟨d0, d1, g0, g1⟩ := blk2 HKR.out; have lgd := hp_lt HKR.out; have HF := Aside0.mk (fmtE0 k 101 W0 wr v1 l1 HBR.out (by first | omega | (have := HNL.out; omega)) hk); clear hbr) | (go_at_call 66; refine HF.out.mono ?_; rintro e w2 ⟨v2, rfl, hb2⟩; have HB2 := Aside0.mk hb2; clear hb2) | fail)
    go_ret
    exact ⟨_, rfl, by have h := HB2.out; rw [HL1.out] at h; simpa [List.append_assoc] using h⟩
set_option maxHeartbeats 3200000 in
set_option maxRecDepth 100000 in
theorem app_f_true (g p k : Nat) (m : Int) (W0 w : World) (v : Value) (l : List Int) (h : Spc w g p m 0 true) (hb : Bu W0 w v l) (hg : g < W0.heap.size) (hl : l.length ≤ 800000) (hk : k ≤ 1000000) :
    Calls Tryz.prog 47 #[.pointer (some ⟨g, 0, none⟩), v, .int .u8 102, .int .i64 (k : Int)] w (BuPost W0 ((l ++ [45]) ++ ([48] ++ zt k))) := by
  have HS : Aside0 (∀ w1 v1 l1, Bu W0 w1 v1 l1 → Spc w1 g p m 0 true) := ⟨fun w1 v1 l1 h1 => (h1.bel.block g hg).trans ((hb.bel.block g hg).symm.trans h)⟩
  have HB := Aside0.mk hb
  have hkw : IntKind.i64.wrap (1 + (k : Int)) = 1 + (k : Int) := IntWalk.i64_in _ (by omega)
  have hkw2 : IntKind.i64.wrap (k : Int) = (k : Int) := IntWalk.i64_in _ (by omega)
  have hkn : ¬ (k : Int) < 0 := by omega
  have hu := Tryz.underlying92
  obtain ⟨c0, c1, c2, c3, c4, c5, c6, f0, f1, f2, f3, f4, f5, f6⟩ := blk7 h.blk
  have lg := hp_lt h.blk
  clear h hb
  go_enter Tryz.func47, Tryz.ntmps47
  go_wp2_with (with_reducible refine bu_byte rfl _ _ rfl W0 v l 45 rfl ?h1 rfl ?h2 ?h3)
  case h1 => exact HB.out
  case h2 => exact Nat.le_trans hl (by omega)
  case h3 =>
    intro v1 w1 hb1
    obtain ⟨l1, hl1⟩ : ∃ l1, l1 = l ++ [45] := ⟨_, rfl⟩
    rw [← hl1] at hb1
    have HL1 := Aside0.mk hl1
    have HNL : Aside0 (l1.length ≤ 900000) := ⟨by rw [hl1]; simp; omega⟩
    have HBD : Aside0 (Bu W0 (w1.alloc (.cells #[.slice none 0 0, .int .i64 0] 92)) v1 l1) := ⟨hb1.alloc _⟩
    have HKD : Aside0 (Dec0 (w1.alloc (.cells #[.slice none 0 0, .int .i64 0] 92)) w1.heap.size) := ⟨hp_new _ _ _ rfl⟩
    have hs1 := HS.out w1 v1 _ hb1
    clear c0 c1 c2 c3 c4 c5 c6 f0 f1 f2 f3 f4 f5 f6 lg hl1
    obtain ⟨c0, c1, c2, c3, c4, c5, c6, f0, f1, f2, f3, f4, f5, f6⟩ := blk7 hs1.blk
    have lg := hp_lt hs1.blk
    clear hb1 hs1
    go_wp2_with (first | (go_at_call 65; refine (round0 _ _ _ HKD.out).mono ?_; rintro e wr ⟨rfl, hbr⟩; have HBR := Aside0.mk (HBD.out.below hbr); have HKR := Aside0.mk (hp_below HKD.out hbr); obtain ⟨d0, d1, g0, g1⟩ := blk2 HKR.out; have lgd := hp_lt HKR.out; have HF := Aside0.mk (fmtF0 k W0 wr v1 l1 HBR.out (by first | omega | (have := HNL.out; omega)) hk); clear hbr) | (go_at_call 67; refine HF.out.mono ?_; rintro e w2 ⟨v2, rfl, hb2⟩; have HB2 := Aside0.mk hb2; clear hb2) | fail)
    go_ret
    exact ⟨_, rfl, by have h := HB2.out; rw [HL1.out] at h; simpa [List.append_assoc] using h⟩
end Go.Proofs.YtalfclpjkefldaaGreatDoor.Sp
