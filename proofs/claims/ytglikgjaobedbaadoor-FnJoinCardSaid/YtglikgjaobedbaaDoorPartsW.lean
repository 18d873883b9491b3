/-
  CONTRACTS of the thin package's 'Parts' and 'Join'.
-/
import Derived.Test.YtglikgjaobedbaaDoorPartsC
namespace Go.Proofs.YtglikgjaobedbaaDoor.Sp
open Go.RowKit Go.Proofs.YtglikgjaobedbaaDoorW.PrintWords Go.Proofs.YtglikgjaobedbaaDoorW.PrintLast Go.Proofs.YtglikgjaobedbaaDoorW.PrintMore Go.Proofs.YtglikgjaobedbaaDoor.Dig
set_option linter.unusedVariables false
set_option linter.unusedSimpArgs false
theorem dull_c (w : World) : Calls Tryd.prog 15 #[.agg #[.int .u64 0, .int .i64 0, .int .i64 0, .bool false, .slice none 0 0, .int .i64 0], .int .i64 0] w fun e w' => e = .returned (.bool true) ∧ Below w.heap.size w w' := by
  have hu := Tryd.underlying28
  go_enter Tryd.func15, Tryd.ntmps15
  go_wp2_with (fail)
  go_ret
  exact ⟨rfl, below_alloc (Below.refl _ _) _⟩
theorem ROk.bb {w : World} {p : Nat} {m f : Int} {A : Option Addr} {mm cc : Nat} {x v : Int} {b n : Nat} {X : List Int} (h : ROk w p m f A mm cc x v b n X) : f = 1 → (b ≤ 600000 ∧ n ≤ 600000 ∧ -500000000 ≤ x ∧ x ≤ 500000000) := by
  intro hf
  obtain ⟨h0, _, h | ⟨_, _, _, _, h5, h6, h7, h8⟩⟩ := h
  · omega
  · have := tz_lt h7 h6 h5
    omega
/-- What is told of mantissa and exponent. -/
def PartsPost (w : World) (p : Nat) (m f : Int) (neg : Bool) (v x : Int) (b n : Nat) (e : Ending) (w' : World) : Prop :=
  ∃ A mm cc, e = .returned (.tuple #[.agg #[.int .u64 p, .int .i64 m, .int .i64 f, .bool neg, .slice A mm cc, .int .i64 (tx f (-(b : Int)) n)], .int .i64 (me f b x)]) ∧ Wf w' w.heap.size (.slice A mm cc) (tv f v n) ∧ Below w.heap.size w w'
theorem hp_bel {w w' : World} {k B : Nat} {o : Obj} (h : hp w k = some o) (hb : Below B w w') (hk : k < B) : hp w' k = some o := (hb.block k hk).trans h
set_option maxHeartbeats 3200000 in
set_option maxRecDepth 100000 in
theorem parts0_c (p : Nat) (m f : Int) (neg : Bool) (A : Option Addr) (mm cc : Nat) (x v : Int) (b n : Nat) (X : List Int) (w : World) (h : ROk w p m f A mm cc x v b n X) (hT : Tb w) :
    Calls Tryd.prog 24 #[.int .i64 0, .agg #[.int .u64 p, .int .i64 m, .int .i64 f, .bool neg, .slice A mm cc, .int .i64 x]] w (PartsPost w p m f neg v x b n) := by
  have hu := Tryd.underlying28
  have HB0 := Aside0.mk (below_alloc (below_alloc (Below.refl w.heap.size w) (.cells #[.int .u64 p, .int .i64 m, .int .i64 f, .bool neg, .slice A mm cc, .int .i64 x] 28)) (.cells #[.int .u64 0, .int .i64 0, .int .i64 0, .bool false, .slice none 0 0, .int .i64 0] 28))
  have HE := Aside0.mk (exact_fl p m f neg A mm cc x v b n X _ (h.below HB0.out))
  have HT := Aside0.mk (hT.below HB0.out hT.2)
  have hgT : 2 < w.heap.size := hT.2
  have hp1 := h.1
  have hm1 := h.2.1
  have HX := Aside0.mk h.bb
  clear h hT
  go_enter Tryd.func24, Tryd.ntmps24
  go_wp2_with (fail)
  refine (HE.out).mono ?_
  rintro e w1 ⟨g, rfl, hF, hb1⟩
  have KR := Aside0.mk (hp_below (show hp _ (w.heap.size + 1) = some (.cells #[.int .u64 0, .int .i64 0, .int .i64 0, .bool false, .slice none 0 0, .int .i64 0] 28 (0, 0)) from (by simp (disch := first | omega | (simp; omega) | (simp; done) | fail) [hp_new, hp_old, hp_here, hp_other, setObj_cells, hp_drew, hp_drewN])) hb1)
  have HB1 := Aside0.mk (below_step HB0.out hb1)
  have HT1 := Aside0.mk (HT.out.below hb1 HT.out.2)
  have hg : w.heap.size + 1 + 1 ≤ g := by simpa using hF.ge
  have hs1 : w.heap.size + 1 + 1 ≤ w1.heap.size := by simpa using hb1.size
  have HF := Aside0.mk hF
  clear hF hb1 HE HT
  obtain ⟨E, hE⟩ : ∃ E, E = me f b x := ⟨_, rfl⟩
  have HE2 := Aside0.mk hE
  have HBA := Aside0.mk (below_alloc (Below.refl w1.heap.size w1) (.cells #[.int .u32 0, .int .u8 0, .int .i8 0, .int .u8 0, .bool false, .slice none 0 0, .int .i32 0] 91))
  have hgw : g < w1.heap.size := by obtain ⟨V, E, hc⟩ := HF.out.cells; exact hp_lt hc
  have KR2 := Aside0.mk (hp_below KR.out HBA.out)
  have HT2 := Aside0.mk (HT1.out.below HBA.out HT1.out.2)
  have HB2 := Aside0.mk (HB1.out.trans (HBA.out.mono (by omega)))
  have HMN := Aside0.mk (mant_fl w1.heap.size (HF.out.below HBA.out) (hp_new _ _ _ rfl) (by simp; omega) (by omega) (by simp; omega) hp1 (fun h => by have := HX.out h; omega))
  rw [← hE] at HMN
  clear HF KR HB1 HT1 HBA hE
  go_wp2_with (fail)
  refine (HMN.out).mono ?_
  rintro e w3 ⟨rfl, hF3, hb3⟩
  have KR3 := Aside0.mk (hp_bel KR2.out hb3 (by simp))
  have HB3 := Aside0.mk (HB2.out.trans (hb3.mono (by simp; omega)))
  have HT3 := Aside0.mk (HT2.out.below hb3 (by simp; omega))
  have HF3 := Aside0.mk hF3
  clear hF3 hb3 HMN KR2 HB2 HT2
  go_wp2_with (fail)
  refine (real_fl HF3.out HT3.out hp1 hm1 (fun h => by have := HX.out h; omega)).mono ?_
  rintro e w4 ⟨A', mm', cc', rfl, hv, hb4⟩
  have hs9 := hp_lt KR3.out
  have KR4 := Aside0.mk (hp_below KR3.out hb4)
  have HB4 := Aside0.mk (below_step HB3.out hb4)
  have HV := Aside0.mk hv
  obtain ⟨y, hy⟩ : ∃ y, y = tx f (-(b : Int)) n := ⟨_, rfl⟩
  rw [← hy]
  have HY := Aside0.mk hy
  clear hv hb4 hy KR3 HB3 HT3 HF3
  obtain ⟨c0, c1, c2, c3, c4, c5, f0, f1, f2, f3, f4, f5⟩ := blk6 KR4.out
  have hs0 := hp_lt KR4.out
  go_wp2_with (fail)
  refine bodyPost_ret (v := .tuple #[.agg #[.int .u64 p, .int .i64 m, .int .i64 f, .bool neg, .slice A' mm' cc', .int .i64 y], .int .i64 E]) (by simp [results, Tryd.results24, go_sem, c0, c1, c2, c3, c4, c5, f0, f1, f2, f3, f4, f5]) rfl ?_
  refine ⟨A', mm', cc', by rw [HY.out, HE2.out], ?_, ?_⟩
  · have hw := HV.out
    refine Wf.mono (B := w3.heap.size) ?_ (by omega)
    exact (((((hw.far (by simpa using hs9) _).far (by simpa using hs9) _).far (by simpa using hs9) _).far (by simpa using hs9) _).far (by simpa using hs9) _).far (by simpa using hs9) _
  · exact (((((HB4.out.setCell (by simp) _).setCell (by simp) _).setCell (by simp) _).setCell (by simp) _).setCell (by simp) _).setCell (by simp) _
set_option maxHeartbeats 3200000 in
set_option maxRecDepth 100000 in
theorem parts1_c (p : Nat) (m f : Int) (neg : Bool) (A : Option Addr) (mm cc : Nat) (x v : Int) (b n : Nat) (X : List Int) (w : World) (h : ROk w p m f A mm cc x v b n X) (hT : Tb w) :
    Calls Tryd.prog 24 #[.int .i64 1, .agg #[.int .u64 p, .int .i64 m, .int .i64 f, .bool neg, .slice A mm cc, .int .i64 x]] w (PartsPost w p m f neg v x b n) := by
  have hu := Tryd.underlying28
  have HB0 := Aside0.mk (below_alloc (below_alloc (Below.refl w.heap.size w) (.cells #[.int .u64 p, .int .i64 m, .int .i64 f, .bool neg, .slice A mm cc, .int .i64 x] 28)) (.cells #[.int .u64 0, .int .i64 0, .int .i64 0, .bool false, .slice none 0 0, .int .i64 0] 28))
  have HE := Aside0.mk (exact_fl p m f neg A mm cc x v b n X _ (h.below HB0.out))
  have HT := Aside0.mk (hT.below HB0.out hT.2)
  have hgT : 2 < w.heap.size := hT.2
  have hp1 := h.1
  have hm1 := h.2.1
  have HX := Aside0.mk h.bb
  clear h hT
  go_enter Tryd.func24, Tryd.ntmps24
  go_wp2_with (fail)
  refine (HE.out).mono ?_
  rintro e w1 ⟨g, rfl, hF, hb1⟩
  have KR := Aside0.mk (hp_below (show hp _ (w.heap.size + 1) = some (.cells #[.int .u64 0, .int .i64 0, .int .i64 0, .bool false, .slice none 0 0, .int .i64 0] 28 (0, 0)) from (by simp (disch := first | omega | (simp; omega) | (simp; done) | fail) [hp_new, hp_old, hp_here, hp_other, setObj_cells, hp_drew, hp_drewN])) hb1)
  have HB1 := Aside0.mk (below_step HB0.out hb1)
  have HT1 := Aside0.mk (HT.out.below hb1 HT.out.2)
  have hg : w.heap.size + 1 + 1 ≤ g := by simpa using hF.ge
  have hs1 : w.heap.size + 1 + 1 ≤ w1.heap.size := by simpa using hb1.size
  have HF := Aside0.mk hF
  clear hF hb1 HE HT
  obtain ⟨E, hE⟩ : ∃ E, E = me f b x := ⟨_, rfl⟩
  have HE2 := Aside0.mk hE
  have hgw : g < w1.heap.size := by obtain ⟨V, E, hc⟩ := HF.out.cells; exact hp_lt hc
  have HMN := Aside0.mk (mant_fl_self HF.out (by simp; omega) (fun h => by have := HX.out h; omega))
  rw [← hE] at HMN
  clear HF hE
  go_wp2_with (fail)
  refine (HMN.out).mono ?_
  rintro e w3 ⟨rfl, hF3, hb3⟩
  have KR3 := Aside0.mk (hp_bel KR.out hb3 (by simp))
  have HB3 := Aside0.mk (HB1.out.trans (hb3.mono (by simp; omega)))
  have HT3 := Aside0.mk (HT1.out.below hb3 (by simp; omega))
  have HF3 := Aside0.mk hF3
  clear hF3 hb3 HMN KR HB1 HT1
  go_wp2_with (fail)
  refine (real_fl HF3.out HT3.out hp1 hm1 (fun h => by have := HX.out h; omega)).mono ?_
  rintro e w4 ⟨A', mm', cc', rfl, hv, hb4⟩
  have hs9 := hp_lt KR3.out
  have KR4 := Aside0.mk (hp_below KR3.out hb4)
  have HB4 := Aside0.mk (below_step HB3.out hb4)
  have HV := Aside0.mk hv
  obtain ⟨y, hy⟩ : ∃ y, y = tx f (-(b : Int)) n := ⟨_, rfl⟩
  rw [← hy]
  have HY := Aside0.mk hy
  clear hv hb4 hy KR3 HB3 HT3 HF3
  obtain ⟨c0, c1, c2, c3, c4, c5, f0, f1, f2, f3, f4, f5⟩ := blk6 KR4.out
  have hs0 := hp_lt KR4.out
  go_wp2_with (fail)
  refine bodyPost_ret (v := .tuple #[.agg #[.int .u64 p, .int .i64 m, .int .i64 f, .bool neg, .slice A' mm' cc', .int .i64 y], .int .i64 E]) (by simp [results, Tryd.results24, go_sem, c0, c1, c2, c3, c4, c5, f0, f1, f2, f3, f4, f5]) rfl ?_
  refine ⟨A', mm', cc', by rw [HY.out, HE2.out], ?_, ?_⟩
  · have hw := HV.out
    refine Wf.mono (B := w3.heap.size) ?_ (by omega)
    exact (((((hw.far (by simpa using hs9) _).far (by simpa using hs9) _).far (by simpa using hs9) _).far (by simpa using hs9) _).far (by simpa using hs9) _).far (by simpa using hs9) _
  · exact (((((HB4.out.setCell (by simp) _).setCell (by simp) _).setCell (by simp) _).setCell (by simp) _).setCell (by simp) _).setCell (by simp) _
set_option maxHeartbeats 3200000 in
set_option maxRecDepth 100000 in
theorem parts2_c (p : Nat) (m f : Int) (neg : Bool) (A : Option Addr) (mm cc : Nat) (x v : Int) (b n : Nat) (X : List Int) (w : World) (h : ROk w p m f A mm cc x v b n X) (hT : Tb w) :
    Calls Tryd.prog 24 #[.int .i64 2, .agg #[.int .u64 p, .int .i64 m, .int .i64 f, .bool neg, .slice A mm cc, .int .i64 x]] w fun e w' => e = .returned (.tuple #[.agg #[.int .u64 0, .int .i64 0, .int .i64 0, .bool false, .slice none 0 0, .int .i64 0], .int .i64 (me f b x)]) ∧ Below w.heap.size w w' := by
  have hu := Tryd.underlying28
  have HB0 := Aside0.mk (below_alloc (below_alloc (Below.refl w.heap.size w) (.cells #[.int .u64 p, .int .i64 m, .int .i64 f, .bool neg, .slice A mm cc, .int .i64 x] 28)) (.cells #[.int .u64 0, .int .i64 0, .int .i64 0, .bool false, .slice none 0 0, .int .i64 0] 28))
  have HE := Aside0.mk (exact_fl p m f neg A mm cc x v b n X _ (h.below HB0.out))
  have HT := Aside0.mk (hT.below HB0.out hT.2)
  have hgT : 2 < w.heap.size := hT.2
  have hp1 := h.1
  have hm1 := h.2.1
  have HX := Aside0.mk h.bb
  clear h hT
  go_enter Tryd.func24, Tryd.ntmps24
  go_wp2_with (fail)
  refine (HE.out).mono ?_
  rintro e w1 ⟨g, rfl, hF, hb1⟩
  have KR := Aside0.mk (hp_below (show hp _ (w.heap.size + 1) = some (.cells #[.int .u64 0, .int .i64 0, .int .i64 0, .bool false, .slice none 0 0, .int .i64 0] 28 (0, 0)) from (by simp (disch := first | omega | (simp; omega) | (simp; done) | fail) [hp_new, hp_old, hp_here, hp_other, setObj_cells, hp_drew, hp_drewN])) hb1)
  have HB1 := Aside0.mk (below_step HB0.out hb1)
  have HT1 := Aside0.mk (HT.out.below hb1 HT.out.2)
  have hg : w.heap.size + 1 + 1 ≤ g := by simpa using hF.ge
  have hs1 : w.heap.size + 1 + 1 ≤ w1.heap.size := by simpa using hb1.size
  have HF := Aside0.mk hF
  clear hF hb1 HE HT
  obtain ⟨E, hE⟩ : ∃ E, E = me f b x := ⟨_, rfl⟩
  have HE2 := Aside0.mk hE
  have hgw : g < w1.heap.size := by obtain ⟨V, E, hc⟩ := HF.out.cells; exact hp_lt hc
  have HMN := Aside0.mk (mant_fl_nil HF.out (fun h => by have := HX.out h; omega))
  rw [← hE] at HMN
  clear HF hE
  go_wp2_with (fail)
  refine (HMN.out).mono ?_
  rintro e w3 ⟨rfl, rfl⟩
  obtain ⟨c0, c1, c2, c3, c4, c5, f0, f1, f2, f3, f4, f5⟩ := blk6 KR.out
  have hs0 := hp_lt KR.out
  go_wp2_with (fail)
  refine bodyPost_ret (v := .tuple #[.agg #[.int .u64 0, .int .i64 0, .int .i64 0, .bool false, .slice none 0 0, .int .i64 0], .int .i64 E]) (by simp [results, Tryd.results24, go_sem, c0, c1, c2, c3, c4, c5, f0, f1, f2, f3, f4, f5]) rfl ?_
  refine ⟨by rw [HE2.out], ?_⟩
  exact (((((HB1.out.setCell (by simp) _).setCell (by simp) _).setCell (by simp) _).setCell (by simp) _).setCell (by simp) _).setCell (by simp) _
def JoinPost (w : World) (p : Nat) (m f : Int) (neg : Bool) (v x : Int) (n : Nat) (e : Ending) (w' : World) : Prop :=
  ∃ A mm cc, e = .returned (.agg #[.int .u64 p, .int .i64 m, .int .i64 f, .bool neg, .slice A mm cc, .int .i64 (tx f x n)]) ∧ Wf w' w.heap.size (.slice A mm cc) (tv f v n) ∧ Below w.heap.size w w'
set_option maxHeartbeats 3200000 in
set_option maxRecDepth 100000 in
theorem join1_c (j : Int) (p : Nat) (m f : Int) (neg : Bool) (A : Option Addr) (mm cc : Nat) (x v : Int) (b n : Nat) (X : List Int) (w : World) (h : ROk w p m f A mm cc x v b n X) (hT : Tb w) (hy : f = 1 → -300000000 ≤ j ∧ j ≤ 300000000) :
    Calls Tryd.prog 26 #[.bool true, .agg #[.int .u64 p, .int .i64 m, .int .i64 f, .bool neg, .slice A mm cc, .int .i64 x], .int .i64 j] w (JoinPost w p m f neg v (x + j) n) := by
  have hu := Tryd.underlying28
  have HB0 := Aside0.mk (below_alloc (below_alloc (Below.refl w.heap.size w) (.cells #[.int .u64 p, .int .i64 m, .int .i64 f, .bool neg, .slice A mm cc, .int .i64 x] 28)) (.cells #[.int .u64 0, .int .i64 0, .int .i64 0, .bool false, .slice none 0 0, .int .i64 0] 28))
  have HE := Aside0.mk (exact_fl p m f neg A mm cc x v b n X _ (h.below HB0.out))
  have HT := Aside0.mk (hT.below HB0.out hT.2)
  have hgT : 2 < w.heap.size := hT.2
  have hp1 := h.1
  have hm1 := h.2.1
  have HX := Aside0.mk h.bb
  clear h hT
  go_enter Tryd.func26, Tryd.ntmps26
  go_wp2_with (fail)
  refine (HE.out).mono ?_
  rintro e w1 ⟨g, rfl, hF, hb1⟩
  have KR := Aside0.mk (hp_below (show hp _ (w.heap.size + 1) = some (.cells #[.int .u64 0, .int .i64 0, .int .i64 0, .bool false, .slice none 0 0, .int .i64 0] 28 (0, 0)) from (by simp (disch := first | omega | (simp; omega) | (simp; done) | fail) [hp_new, hp_old, hp_here, hp_other, setObj_cells, hp_drew, hp_drewN])) hb1)
  have HB1 := Aside0.mk (below_step HB0.out hb1)
  have HT1 := Aside0.mk (HT.out.below hb1 HT.out.2)
  have hg : w.heap.size + 1 + 1 ≤ g := by simpa using hF.ge
  have hs1 : w.heap.size + 1 + 1 ≤ w1.heap.size := by simpa using hb1.size
  have HF := Aside0.mk hF
  clear hF hb1 HE HT
  have hgw : g < w1.heap.size := by obtain ⟨V, E, hc⟩ := HF.out.cells; exact hp_lt hc
  have HMN := Aside0.mk (sme_fl_self j HF.out (by simp; omega) hp1 hm1 (fun h => by have := HX.out h; omega) (fun h => by have := hy h; omega))
  clear HF
  go_wp2_with (fail)
  refine (HMN.out).mono ?_
  rintro e w3 ⟨rfl, hF3, hb3⟩
  have KR3 := Aside0.mk (hp_bel KR.out hb3 (by simp))
  have HB3 := Aside0.mk (HB1.out.trans (hb3.mono (by simp; omega)))
  have HT3 := Aside0.mk (HT1.out.below hb3 (by simp; omega))
  have HF3 := Aside0.mk hF3
  clear hF3 hb3 HMN KR HB1 HT1
  go_wp2_with (fail)
  refine (real_fl HF3.out HT3.out hp1 hm1 (fun h => by have := HX.out h; have := hy h; omega)).mono ?_
  rintro e w4 ⟨A', mm', cc', rfl, hv, hb4⟩
  have hs9 := hp_lt KR3.out
  have KR4 := Aside0.mk (hp_below KR3.out hb4)
  have HB4 := Aside0.mk (below_step HB3.out hb4)
  have HV := Aside0.mk hv
  obtain ⟨y, hy⟩ : ∃ y, y = tx f (x + j) n := ⟨_, rfl⟩
  rw [← hy]
  have HY := Aside0.mk hy
  clear hv hb4 hy KR3 HB3 HT3 HF3
  obtain ⟨c0, c1, c2, c3, c4, c5, f0, f1, f2, f3, f4, f5⟩ := blk6 KR4.out
  have hs0 := hp_lt KR4.out
  go_wp2_with (fail)
  refine bodyPost_ret (v := .agg #[.int .u64 p, .int .i64 m, .int .i64 f, .bool neg, .slice A' mm' cc', .int .i64 y]) (by simp [results, Tryd.results26, go_sem, c0, c1, c2, c3, c4, c5, f0, f1, f2, f3, f4, f5]) rfl ?_
  refine ⟨A', mm', cc', by rw [HY.out], ?_, ?_⟩
  · have hw := HV.out
    refine Wf.mono (B := w3.heap.size) ?_ (by omega)
    exact (((((hw.far (by simpa using hs9) _).far (by simpa using hs9) _).far (by simpa using hs9) _).far (by simpa using hs9) _).far (by simpa using hs9) _).far (by simpa using hs9) _
  · exact (((((HB4.out.setCell (by simp) _).setCell (by simp) _).setCell (by simp) _).setCell (by simp) _).setCell (by simp) _).setCell (by simp) _
set_option maxHeartbeats 3200000 in
set_option maxRecDepth 100000 in
theorem join0_c (j : Int) (p : Nat) (m f : Int) (neg : Bool) (A : Option Addr) (mm cc : Nat) (x v : Int) (b n : Nat) (X : List Int) (w : World) (h : ROk w p m f A mm cc x v b n X) (hT : Tb w) (hy : f = 1 → -300000000 ≤ j ∧ j ≤ 300000000) :
    Calls Tryd.prog 26 #[.bool false, .agg #[.int .u64 p, .int .i64 m, .int .i64 f, .bool neg, .slice A mm cc, .int .i64 x], .int .i64 j] w (JoinPost w p m f neg v (x + j) n) := by
  have hu := Tryd.underlying28
  have HB0 := Aside0.mk (below_alloc (below_alloc (Below.refl w.heap.size w) (.cells #[.int .u64 p, .int .i64 m, .int .i64 f, .bool neg, .slice A mm cc, .int .i64 x] 28)) (.cells #[.int .u64 0, .int .i64 0, .int .i64 0, .bool false, .slice none 0 0, .int .i64 0] 28))
  have HE := Aside0.mk (exact_fl p m f neg A mm cc x v b n X _ (h.below HB0.out))
  have HT := Aside0.mk (hT.below HB0.out hT.2)
  have hgT : 2 < w.heap.size := hT.2
  have hp1 := h.1
  have hm1 := h.2.1
  have HX := Aside0.mk h.bb
  clear h hT
  go_enter Tryd.func26, Tryd.ntmps26
  go_wp2_with (fail)
  refine (HE.out).mono ?_
  rintro e w1 ⟨g, rfl, hF, hb1⟩
  have KR := Aside0.mk (hp_below (show hp _ (w.heap.size + 1) = some (.cells #[.int .u64 0, .int .i64 0, .int .i64 0, .bool false, .slice none 0 0, .int .i64 0] 28 (0, 0)) from (by simp (disch := first | omega | (simp; omega) | (simp; done) | fail) [hp_new, hp_old, hp_here, hp_other, setObj_cells, hp_drew, hp_drewN])) hb1)
  have HB1 := Aside0.mk (below_step HB0.out hb1)
  have HT1 := Aside0.mk (HT.out.below hb1 HT.out.2)
  have hg : w.heap.size + 1 + 1 ≤ g := by simpa using hF.ge
  have hs1 : w.heap.size + 1 + 1 ≤ w1.heap.size := by simpa using hb1.size
  have HF := Aside0.mk hF
  clear hF hb1 HE HT
  have HBA := Aside0.mk (below_alloc (Below.refl w1.heap.size w1) (.cells #[.int .u32 0, .int .u8 0, .int .i8 0, .int .u8 0, .bool false, .slice none 0 0, .int .i32 0] 91))
  have hgw : g < w1.heap.size := by obtain ⟨V, E, hc⟩ := HF.out.cells; exact hp_lt hc
  have KR2 := Aside0.mk (hp_below KR.out HBA.out)
  have HT2 := Aside0.mk (HT1.out.below HBA.out HT1.out.2)
  have HB2 := Aside0.mk (HB1.out.trans (HBA.out.mono (by omega)))
  have HMN := Aside0.mk (sme_fl w1.heap.size j (HF.out.below HBA.out) (hp_new _ _ _ rfl) (by simp; omega) (by omega) (by simp; omega) hp1 hm1 (fun h => by have := HX.out h; omega) (fun h => by have := hy h; omega))
  clear HF KR HB1 HT1 HBA
  go_wp2_with (fail)
  refine (HMN.out).mono ?_
  rintro e w3 ⟨rfl, hF3, hb3⟩
  have KR3 := Aside0.mk (hp_bel KR2.out hb3 (by simp))
  have HB3 := Aside0.mk (HB2.out.trans (hb3.mono (by simp; omega)))
  have HT3 := Aside0.mk (HT2.out.below hb3 (by simp; omega))
  have HF3 := Aside0.mk hF3
  clear hF3 hb3 HMN KR2 HB2 HT2
  go_wp2_with (fail)
  refine (real_fl HF3.out HT3.out hp1 hm1 (fun h => by have := HX.out h; have := hy h; omega)).mono ?_
  rintro e w4 ⟨A', mm', cc', rfl, hv, hb4⟩
  have hs9 := hp_lt KR3.out
  have KR4 := Aside0.mk (hp_below KR3.out hb4)
  have HB4 := Aside0.mk (below_step HB3.out hb4)
  have HV := Aside0.mk hv
  obtain ⟨y, hy⟩ : ∃ y, y = tx f (x + j) n := ⟨_, rfl⟩
  rw [← hy]
  have HY := Aside0.mk hy
  clear hv hb4 hy KR3 HB3 HT3 HF3
  obtain ⟨c0, c1, c2, c3, c4, c5, f0, f1, f2, f3, f4, f5⟩ := blk6 KR4.out
  have hs0 := hp_lt KR4.out
  go_wp2_with (fail)
  refine bodyPost_ret (v := .agg #[.int .u64 p, .int .i64 m, .int .i64 f, .bool neg, .slice A' mm' cc', .int .i64 y]) (by simp [results, Tryd.results26, go_sem, c0, c1, c2, c3, c4, c5, f0, f1, f2, f3, f4, f5]) rfl ?_
  refine ⟨A', mm', cc', by rw [HY.out], ?_, ?_⟩
  · have hw := HV.out
    refine Wf.mono (B := w3.heap.size) ?_ (by omega)
    exact (((((hw.far (by simpa using hs9) _).far (by simpa using hs9) _).far (by simpa using hs9) _).far (by simpa using hs9) _).far (by simpa using hs9) _).far (by simpa using hs9) _
  · exact (((((HB4.out.setCell (by simp) _).setCell (by simp) _).setCell (by simp) _).setCell (by simp) _).setCell (by simp) _).setCell (by simp) _
end Go.Proofs.YtglikgjaobedbaaDoor.Sp
