/-
  MERGED BY PROGRAM (regroup.py): FloatC, ExactC, Spc, BothC.
-/
import Derived.Test.YtfnknldbjckgoaaGreatDoorZGflt
/-! ## FloatC -/
section
namespace Go.Proofs.YtfnknldbjckgoaaGreatDoor.Sp
open Go.RowKit Go.Proofs.YtfnknldbjckgoaaGreatDoorW.PrintWords Go.Proofs.YtfnknldbjckgoaaGreatDoorW.PrintLast Go.Proofs.YtfnknldbjckgoaaGreatDoorW.PrintMore Go.Proofs.YtfnknldbjckgoaaGreatDoor.Dig
set_option linter.unusedVariables false
set_option linter.unusedSimpArgs false

/-- A Float of the call's own that has a value: v times 2 to the x, of b bits. -/
def Own (w0 w : World) (g p : Nat) (m : Int) (neg : Bool) (v x : Int) (b : Nat) : Prop :=
  ∃ mb L R c, w0.heap.size ≤ g ∧ w0.heap.size ≤ mb ∧ (L ++ R).length = c ∧ Flt w g mb p m 0 1 neg L.length c (b + x) (L ++ R) ∧ Canon p L ∧ ev BW L = v * 2 ^ (64 * L.length - b) ∧ 64 * L.length < b + 64 ∧ b ≤ 64 * L.length
def FloatPost (w : World) (p : Nat) (m : Int) (neg : Bool) (v x : Int) (b : Nat) (e : Ending) (w' : World) : Prop := ∃ g, e = .returned (.pointer (some ⟨g, 0, none⟩)) ∧ Own w w' g p m neg v x b ∧ Below w.heap.size w w'
set_option maxHeartbeats 1600000 in
set_option maxRecDepth 100000 in
theorem neg_self (g : Nat) (p m acc f : Int) (neg : Bool) (A : Option Addr) (n c : Nat) (E : Int) (w : World) (h : hp w g = some (.cells #[.int .u32 p, .int .u8 m, .int .i8 acc, .int .u8 f, .bool neg, .slice A n c, .int .i32 E] 83 (0, 0))) :
    Calls Tryz.prog 58 #[.pointer (some ⟨g, 0, none⟩), .pointer (some ⟨g, 0, none⟩)] w fun e w' => e = .returned (.pointer (some ⟨g, 0, none⟩)) ∧ w' = (w.setCell ⟨g, 2, none⟩ (.int .i8 0)).setCell ⟨g, 4, none⟩ (.bool (!neg)) := by
  obtain ⟨c0, c1, c2, c3, c4, c5, c6, f0, f1, f2, f3, f4, f5, f6⟩ := blk7 h
  have hq := fun w => neqF_same g w
  have lg := hp_lt h
  clear h
  go_enter Tryz.func58, Tryz.ntmps58
  go_wp2_with (go_in)
  go_ret
  exact ⟨rfl, rfl⟩
set_option maxHeartbeats 12800000 in
set_option maxRecDepth 100000 in
theorem float_c (p b : Nat) (m : Int) (neg : Bool) (A : Option Addr) (mm cc : Nat) (x v : Int) (X : List Int) (w : World) (h : Ws w (.slice A mm cc) X) (hX : X.length ≤ 10000) (hv : ev BW X = v) (hv0 : 0 < v) (hb : Bits v b) (hbp : b ≤ p) (hp1 : 1 ≤ p ∧ p ≤ 600000) (hm : 0 ≤ m ∧ m < 6) (hx : -1000000000 ≤ x ∧ x ≤ 1000000000) :
    Calls Tryz.prog 40 #[.agg #[.int .u64 p, .int .i64 m, .int .i64 1, .bool neg, .slice A mm cc, .int .i64 x]] w (FloatPost w p m neg v x b) := by
  have hu := Tryz.underlying25
  have hpb : ((p : Int) == 0) = false := by rw [beq_eq_false_iff_ne]; omega
  have hpd : decide ((4294967295 : Int) < (p : Int)) = false := decide_eq_false (by omega)
  have hmw : IntKind.u8.wrap m = m := by rw [IntKind.wrap_u8']; omega
  have hpw : IntKind.u32.wrap (p : Int) = (p : Int) := by rw [IntKind.wrap_u32']; omega
  have HB0 := Aside0.mk (below_alloc (below_alloc (Below.refl w.heap.size w) (.cells #[.int .u64 p, .int .i64 m, .int .i64 1, .bool neg, .slice A mm cc, .int .i64 x] 25)) (.cells #[.int .u32 p, .int .u8 m, .int .i8 0, .int .u8 0, .bool false, .slice none 0 0, .int .i32 0] 83))
  have HOF := Aside0.mk (of_impl_c false A mm cc X _ (h.below HB0.out) (by omega))
  have HV := Aside0.mk hv
  have HB := Aside0.mk hb
  clear h hv hb
  go_enter Tryz.func40, Tryz.ntmps40
  go_wp2_with ((fail_if_success go_at_call 61); (fail_if_success go_at_call 60); (fail_if_success go_at_call 62); (fail_if_success go_at_call 58); go_in)
  refine (HOF.out).mono ?_
  rintro e w1 ⟨gi, rfl, hgi, hI, hb1⟩
  rw [HV.out, Bool.false_and] at hI
  have hgi2 : w.heap.size + 1 < gi := by simp at hgi; omega
  have kx := hp_below (show hp _ w.heap.size = some (.cells #[.int .u64 p, .int .i64 m, .int .i64 1, .bool neg, .slice A mm cc, .int .i64 x] 25 (0, 0)) from (by simp (disch := first | omega | (simp; omega) | (simp; done) | fail) [hp_new, hp_old, hp_here, hp_other, setObj_cells, hp_drew, hp_drewN])) hb1
  have kz := hp_below (show hp _ (w.heap.size + 1) = some (.cells #[.int .u32 p, .int .u8 m, .int .i8 0, .int .u8 0, .bool false, .slice none 0 0, .int .i32 0] 83 (0, 0)) from (by simp (disch := first | omega | (simp; omega) | (simp; done) | fail) [hp_new, hp_old, hp_here, hp_other, setObj_cells, hp_drew, hp_drewN])) hb1
  have hvl : v < 2 ^ 1000000 := by
    have h1 := HB.out.2.1
    have h2 : (2 : Int) ^ b ≤ 2 ^ 1000000 := pow_mono (by omega) (by omega)
    omega
  have HSI := Aside0.mk (setInt_c (w.heap.size + 1) gi p m 0 0 false false 0 v b w1 kz (by omega) hm hI (by omega) hv0 hvl HB.out hbp)
  have KX := Aside0.mk kx
  have HB1 := Aside0.mk (below_step HB0.out hb1)
  have hs1 := hp_lt kz
  clear hb1 kx kz hI hgi hvl HOF HB0
  go_wp2_with (fail)
  refine (HSI.out).mono ?_
  rintro e w2 ⟨rfl, hk2, mb, L, R, hmb, hF2, hcan, hev, hl1, hl2⟩
  have kx2 := hp_kept KX.out hk2 (fun h => by have : w.heap.size = w.heap.size + 1 := h; omega)
  have HB2 := Aside0.mk (HB1.out.trans (hk2.below (B := w.heap.size) (fun i h => by have : i = w.heap.size + 1 := h; omega) HB1.out.size))
  have HF2 := Aside0.mk hF2
  have HCAN := Aside0.mk hcan
  have HEV := Aside0.mk hev
  obtain ⟨x0, x1, x2, x3, x4, x5, _, _, _, _, _, _⟩ := blk6 kx2
  have ls2 := hp_lt kx2
  have lz2 := hp_lt hF2.flt
  have hbb : b ≤ 600000 := by omega
  have KX2 := Aside0.mk kx2
  obtain ⟨c, hcc⟩ : ∃ c, c = (L ++ R).length := ⟨_, rfl⟩
  have HCC := Aside0.mk hcc
  rw [← hcc] at HF2
  clear hk2 hF2 hcan hev HSI KX HB1 kx2 hcc
  have hfin : ∀ (W : World), Below w.heap.size w W → Flt W (w.heap.size + 1) mb p m 0 1 neg L.length c b (L ++ R) → Calls Tryz.prog 62 #[.pointer (some ⟨W.heap.size, 0, none⟩), .pointer (some ⟨w.heap.size + 1, 0, none⟩), .int .i64 x] (W.alloc (.cells #[.int .u32 0, .int .u8 0, .int .i8 0, .int .u8 0, .bool false, .slice none 0 0, .int .i32 0] 83)) (FloatPost w p m neg v x b) := fun W hBW hFW => by
    have hal := below_alloc (Below.refl W.heap.size W) (.cells #[.int .u32 0, .int .u8 0, .int .i8 0, .int .u8 0, .bool false, .slice none 0 0, .int .i32 0] 83)
    have hlt := hp_lt hFW.flt
    have hsW := hBW.size
    refine (sme_c W.heap.size (w.heap.size + 1) mb p (fun _ => False) m 0 neg c b x L R _ (FltD.new (hp_new _ _ _ rfl)) (hFW.below hal) (by omega) (by have := HCAN.out.len; omega) (fun h => h) (fun h => h) HCAN.out (by omega) hm (by omega) (by omega) (by omega)).mono ?_
    rintro e w3 ⟨rfl, hk3, mb3, R3, c3, hmb3, hlen3, hF3⟩
    have hmb4 : W.heap.size + 1 ≤ mb3 := by rcases hmb3 with h | h; exact h.elim; simpa using h
    exact ⟨_, rfl, ⟨mb3, L, R3, c3, hsW, by omega, hlen3, hF3, HCAN.out, HEV.out, hl1, hl2⟩, (hBW.trans (hal.mono hsW)).trans (hk3.below (B := w.heap.size) (by rintro i (h | h); omega; exact h.elim) (by simp; omega))⟩
  have HFIN := Aside0.mk hfin
  clear hfin
  cases neg with
  | false =>
    go_wp2_with (fail)
    refine (HFIN.out w2 HB2.out HF2.out).mono ?_
    rintro e w3 ⟨g3, rfl, h3, h4⟩
    have H3 := Aside0.mk h3
    have H4 := Aside0.mk h4
    clear h3 h4
    go_wp2_with (fail)
    go_ret
    exact ⟨_, rfl, H3.out, H4.out⟩
  | true =>
    have HNG := Aside0.mk (neg_self (w.heap.size + 1) p m 0 1 false _ _ _ _ w2 HF2.out.flt)
    have HF3 : Aside0 (Flt ((w2.setCell ⟨w.heap.size + 1, 2, none⟩ (.int .i8 0)).setCell ⟨w.heap.size + 1, 4, none⟩ (.bool (!false))) (w.heap.size + 1) mb p m 0 1 true L.length c b (L ++ R)) := ⟨(HF2.out.setAcc 0).setNeg (!false)⟩
    have HB3 : Aside0 (Below w.heap.size w ((w2.setCell ⟨w.heap.size + 1, 2, none⟩ (.int .i8 0)).setCell ⟨w.heap.size + 1, 4, none⟩ (.bool (!false)))) := ⟨(HB2.out.setCell (p := ⟨w.heap.size + 1, 2, none⟩) (by simp) _).setCell (p := ⟨w.heap.size + 1, 4, none⟩) (by simp) _⟩
    have K3 : Aside0 (hp ((w2.setCell ⟨w.heap.size + 1, 2, none⟩ (.int .i8 0)).setCell ⟨w.heap.size + 1, 4, none⟩ (.bool (!false))) w.heap.size = some (.cells #[.int .u64 p, .int .i64 m, .int .i64 1, .bool true, .slice A mm cc, .int .i64 x] 25 (0, 0))) := ⟨by rw [hp_other _ _ _ _ (by simp), hp_other _ _ _ _ (by simp)]; exact KX2.out⟩
    go_wp2_with (fail)
    refine (HNG.out).mono ?_
    rintro e w3 ⟨rfl, hw3⟩
    rw [← hw3] at HF3 HB3 K3
    have ls3 := hp_lt K3.out
    have lz3 := hp_lt HF3.out.flt
    obtain ⟨y0, y1, y2, y3, y4, y5, _, _, _, _, _, _⟩ := blk6 K3.out
    clear hw3 HNG x0 x1 x2 x3 x4 x5
    go_wp2_with (fail)
    refine (HFIN.out w3 HB3.out HF3.out).mono ?_
    rintro e w4 ⟨g3, rfl, h3, h4⟩
    have H3 := Aside0.mk h3
    have H4 := Aside0.mk h4
    clear h3 h4
    go_wp2_with (fail)
    go_ret
    exact ⟨_, rfl, H3.out, H4.out⟩
end Go.Proofs.YtfnknldbjckgoaaGreatDoor.Sp
end

/-! ## ExactC -/
section
namespace Go.Proofs.YtfnknldbjckgoaaGreatDoor.Sp
open Go.RowKit Go.Proofs.YtfnknldbjckgoaaGreatDoorW.PrintWords Go.Proofs.YtfnknldbjckgoaaGreatDoorW.PrintLast Go.Proofs.YtfnknldbjckgoaaGreatDoorW.PrintMore Go.Proofs.YtfnknldbjckgoaaGreatDoor.Dig
set_option linter.unusedVariables false
set_option linter.unusedSimpArgs false
set_option maxHeartbeats 1600000 in
set_option maxRecDepth 100000 in
theorem setMode_c (g : Nat) (p m acc f k : Int) (neg : Bool) (V : Value) (E : Int) (w : World) (h : hp w g = some (.cells #[.int .u32 p, .int .u8 m, .int .i8 acc, .int .u8 f, .bool neg, V, .int .i32 E] 83 (0, 0))) :
    Calls Tryz.prog 41 #[.pointer (some ⟨g, 0, none⟩), .int .u8 k] w fun e w' => e = .returned (.pointer (some ⟨g, 0, none⟩)) ∧ w' = (w.setCell ⟨g, 1, none⟩ (.int .u8 k)).setCell ⟨g, 2, none⟩ (.int .i8 0) := by
  obtain ⟨c0, c1, c2, c3, c4, c5, c6, f0, f1, f2, f3, f4, f5, f6⟩ := blk7 h
  have lg := hp_lt h
  clear h
  go_enter Tryz.func41, Tryz.ntmps41
  go_wp2_with (go_in)
  go_ret
  exact ⟨rfl, rfl⟩
theorem Own.mode {w0 w : World} {g p : Nat} {m : Int} {neg : Bool} {v x : Int} {b : Nat} (h : Own w0 w g p m neg v x b) (k : Int) : Own w0 ((w.setCell ⟨g, 1, none⟩ (.int .u8 k)).setCell ⟨g, 2, none⟩ (.int .i8 0)) g p k neg v x b := by
  obtain ⟨mb, L, R, c, h1, h2, h3, h4, h5⟩ := h
  exact ⟨mb, L, R, c, h1, h2, h3, (h4.setMode k).setAcc 0, h5⟩
theorem Own.mono {w0 w1 w : World} {g p : Nat} {m : Int} {neg : Bool} {v x : Int} {b : Nat} (h : Own w1 w g p m neg v x b) (hs : w0.heap.size ≤ w1.heap.size) : Own w0 w g p m neg v x b := by
  obtain ⟨mb, L, R, c, h1, h2, h3⟩ := h
  exact ⟨mb, L, R, c, Nat.le_trans hs h1, Nat.le_trans hs h2, h3⟩
set_option maxHeartbeats 12800000 in
set_option maxRecDepth 100000 in
theorem exact_c (p b : Nat) (m : Int) (neg : Bool) (A : Option Addr) (mm cc : Nat) (x v : Int) (X : List Int) (w : World) (h : Ws w (.slice A mm cc) X) (hX : X.length ≤ 10000) (hv : ev BW X = v) (hv0 : 0 < v) (hb : Bits v b) (hbp : b ≤ p) (hp1 : 1 ≤ p ∧ p ≤ 600000) (hm : 0 ≤ m ∧ m < 6) (hx : -1000000000 ≤ x ∧ x ≤ 1000000000) :
    Calls Tryz.prog 28 #[.agg #[.int .u64 p, .int .i64 m, .int .i64 1, .bool neg, .slice A mm cc, .int .i64 x]] w (FloatPost w p m neg v x b) := by
  have hmw : IntKind.u8.wrap m = m := by rw [IntKind.wrap_u8']; omega
  have HB0 := Aside0.mk (below_alloc (Below.refl w.heap.size w) (.cells #[.int .u64 p, .int .i64 m, .int .i64 1, .bool neg, .slice A mm cc, .int .i64 x] 25))
  have KX := Aside0.mk (show hp (w.alloc (.cells #[.int .u64 p, .int .i64 m, .int .i64 1, .bool neg, .slice A mm cc, .int .i64 x] 25)) w.heap.size = some (.cells #[.int .u64 p, .int .i64 m, .int .i64 1, .bool neg, .slice A mm cc, .int .i64 x] 25 (0, 0)) from (by simp (disch := first | omega | (simp; omega) | (simp; done) | fail) [hp_new, hp_old, hp_here, hp_other, setObj_cells, hp_drew, hp_drewN]))
  have HFL := Aside0.mk (float_c p b m neg A mm cc x v X _ (h.below (below_drew1 HB0.out)) hX hv hv0 hb hbp hp1 hm hx)
  have HBD := Aside0.mk (below_drew1 HB0.out)
  clear h hX hv hv0 hb hbp
  go_enter Tryz.func28, Tryz.ntmps28
  go_upto_region 1 with (fail)
  obtain ⟨w1, hw1⟩ : ∃ w1, w1 = w.alloc (.cells #[.int .u64 p, .int .i64 m, .int .i64 1, .bool neg, .slice A mm cc, .int .i64 x] 25) := ⟨_, rfl⟩
  rw [← hw1] at HB0 KX HFL HBD ⊢
  clear hw1
  obtain ⟨c0, c1, c2, c3, c4, c5, f0, f1, f2, f3, f4, f5⟩ := blk6 KX.out
  have l1 := hp_lt KX.out
  refine start_ (n := 7) (S := fun w' => w'.cell? ⟨w.heap.size, 0, none⟩ = some (.int .u64 p) ∧ w'.cell? ⟨w.heap.size, 1, none⟩ = some (.int .i64 m) ∧ w'.cell? ⟨w.heap.size, 2, none⟩ = some (.int .i64 1) ∧ w'.cell? ⟨w.heap.size, 3, none⟩ = some (.bool neg) ∧ w'.cell? ⟨w.heap.size, 4, none⟩ = some (.slice A mm cc) ∧ w'.cell? ⟨w.heap.size, 5, none⟩ = some (.int .i64 x)) (ds := [5]) #[false, false, false, false, false, false, false] (by kernel_rfl) rfl rfl ⟨(by go_simp), (by go_simp), (by go_simp), (by go_simp), (by go_simp), (by go_simp)⟩ (fun hHeld => ?_)
  refine pure_ (i := 2) (N := some 5) (v := ?_) (a' := ?_) #[false, false, true, false, false, false, false] rfl rfl (by kernel_rfl) (fun _ _ _ h => h) (Or.inl ⟨by rfl, ?_⟩) ?_ ?_
  rotate_left
  · intro w'
    go_simp
    with_reducible rfl
  rotate_left
  · simp only [Act.put, List.setIfInBounds_toArray, List.set_cons_zero, List.set_cons_succ, i64_w, i32_w]
    rfl
  refine take_ (i := 0) (N := some 3) (v := ?_) (a' := ?_) #[true, false, true, false, false, false, false] rfl rfl (by kernel_rfl) (fun _ _ _ h => h) (Or.inl ⟨by rfl, ?_⟩) hHeld ?_ ?_
  rotate_left
  · rintro w' ⟨s0, s1, s2, s3, s4, s5⟩
    go_simp
    with_reducible rfl
  rotate_left
  · simp only [Act.put, List.setIfInBounds_toArray, List.set_cons_zero, List.set_cons_succ, i64_w, i32_w]
    rfl
  refine take_ (i := 3) (N := some 6) (v := ?_) (a' := ?_) #[true, false, true, true, false, false, false] rfl rfl (by kernel_rfl) (fun _ _ _ h => h) (Or.inl ⟨by rfl, ?_⟩) hHeld ?_ ?_
  rotate_left
  · rintro w' ⟨s0, s1, s2, s3, s4, s5⟩
    go_simp
    with_reducible rfl
  rotate_left
  · simp only [Act.put, List.setIfInBounds_toArray, List.set_cons_zero, List.set_cons_succ, i64_w, i32_w]
    rfl
  refine pure_ (i := 4) (N := some 7) (v := ?_) (a' := ?_) #[true, false, true, true, true, false, false] rfl rfl (by kernel_rfl) (fun _ _ _ h => h) (Or.inl ⟨by rfl, ?_⟩) ?_ ?_
  rotate_left
  · intro w'
    go_simp
    with_reducible rfl
  rotate_left
  · simp only [Act.put, List.setIfInBounds_toArray, List.set_cons_zero, List.set_cons_succ, i64_w, i32_w]
    rfl
  refine one_ (i := 1) (N := some 4) #[true, true, true, true, true, false, false] rfl rfl (by kernel_rfl) (by decide) (fun K hK => ?_)
  refine goes_ Tryz.func40 (by kernel_rfl) rfl #[.agg #[.int .u64 p, .int .i64 m, .int .i64 1, .bool neg, .slice A mm cc, .int .i64 x]] (by rfl) rfl rfl (by simp only [List.map_toArray, List.map_cons, List.map_nil]; rfl) ?_
  with_reducible refine (HFL.out).mono ?_
  rintro e w2 ⟨g, rfl, hO, hb2⟩
  refine ⟨_, rfl, ?_⟩
  have hb3 := below_step HBD.out hb2
  obtain ⟨q0, q1, q2, q3, q4, q5, _, _, _, _, _, _⟩ := blk6 (hp_below (show hp w1.drew w.heap.size = _ from KX.out) hb2)
  have HO := Aside0.mk hO
  obtain ⟨mb, L, R, c, ho1, ho2, ho3, ho4, ho5⟩ := hO
  refine hK.out _ _ ⟨q0, q1, q2, q3, q4, q5⟩ (fun hHeld => ?_)
  clear hK K
  refine norm_ (a' := ?_) ?_ ?_
  rotate_left
  · show Act.put _ (some 4) _ = _
    simp only [Act.put, List.setIfInBounds_toArray, List.set_cons_zero, List.set_cons_succ, i64_w, i32_w]
    rfl
  refine last_ (i := 5) (N := some 8) #[true, true, true, true, true, true, false] rfl rfl (by kernel_rfl) (by decide) (fun K hK => ?_)
  refine goes_ Tryz.func41 (by kernel_rfl) rfl #[.pointer (some ⟨g, 0, none⟩), .int .u8 m] (by rfl) rfl rfl (by simp only [List.map_toArray, List.map_cons, List.map_nil]; rfl) ?_
  with_reducible refine (setMode_c g p m 0 1 m neg _ _ w2 ho4.flt).mono ?_
  rintro e w3 ⟨rfl, rfl⟩
  refine ⟨_, rfl, ?_⟩
  refine hK.out _ _ ?_
  clear hK K
  refine norm_ (a' := ?_) ?_ ?_
  rotate_left
  · show Act.put _ (some 8) _ = _
    simp only [Act.put, List.setIfInBounds_toArray, List.set_cons_zero, List.set_cons_succ, i64_w, i32_w]
    rfl
  refine pure_ (i := 6) (N := some 2) (v := ?_) (a' := ?_) #[true, true, true, true, true, true, true] rfl rfl (by kernel_rfl) (fun _ _ _ h => h) (Or.inl ⟨by rfl, ?_⟩) ?_ ?_
  rotate_left
  · intro w'
    go_simp
    with_reducible rfl
  rotate_left
  · simp only [Act.put, List.setIfInBounds_toArray, List.set_cons_zero, List.set_cons_succ, i64_w, i32_w]
    rfl
  refine done_ (by kernel_rfl) ?_
  go_wp2_with (fail)
  go_ret
  refine ⟨g, rfl, (HO.out.mono (w0 := w) HBD.out.size).mode m, ?_⟩
  have hg : w.heap.size ≤ g := Nat.le_trans HBD.out.size ho1
  exact (hb3.setCell (p := ⟨g, 1, none⟩) hg _).setCell (p := ⟨g, 2, none⟩) hg _
end Go.Proofs.YtfnknldbjckgoaaGreatDoor.Sp
end

/-! ## Spc -/
section
namespace Go.Proofs.YtfnknldbjckgoaaGreatDoor.Sp
open Go.RowKit Go.Proofs.YtfnknldbjckgoaaGreatDoorW.PrintWords Go.Proofs.YtfnknldbjckgoaaGreatDoorW.PrintLast Go.Proofs.YtfnknldbjckgoaaGreatDoorW.PrintMore Go.Proofs.YtfnknldbjckgoaaGreatDoor.Dig
set_option linter.unusedVariables false
set_option linter.unusedSimpArgs false

/-- A nought or an infinity in block g. -/
def Spc (w : World) (g p : Nat) (m f : Int) (neg : Bool) : Prop := hp w g = some (.cells #[.int .u32 p, .int .u8 m, .int .i8 0, .int .u8 f, .bool neg, .slice none 0 0, .int .i32 0] 83 (0, 0))
def SpcPost (w : World) (p : Nat) (m f : Int) (neg : Bool) (e : Ending) (w' : World) : Prop := ∃ g, w.heap.size ≤ g ∧ e = .returned (.pointer (some ⟨g, 0, none⟩)) ∧ Spc w' g p m f neg ∧ Below w.heap.size w w'
theorem Spc.blk {w : World} {g p : Nat} {m f : Int} {neg : Bool} (h : Spc w g p m f neg) : hp w g = some (.cells #[.int .u32 p, .int .u8 m, .int .i8 0, .int .u8 f, .bool neg, .slice none 0 0, .int .i32 0] 83 (0, 0)) := h
theorem Spc.mode {w : World} {g p : Nat} {m f : Int} {neg : Bool} (h : Spc w g p m f neg) (k : Int) : Spc ((w.setCell ⟨g, 1, none⟩ (.int .u8 k)).setCell ⟨g, 2, none⟩ (.int .i8 0)) g p k f neg := by
  unfold Spc at h ⊢
  rw [hp_here _ _ _ _ _ rfl, hp_here _ _ _ _ _ rfl, h]
  rfl
set_option maxHeartbeats 3200000 in
set_option maxRecDepth 100000 in
theorem float_spc (p : Nat) (m f x : Int) (neg : Bool) (A : Option Addr) (mm cc : Nat) (w : World) (hf : f = 0 ∨ f = 2) (hp1 : 1 ≤ p ∧ p ≤ 600000) (hm : 0 ≤ m ∧ m < 6) :
    Calls Tryz.prog 40 #[.agg #[.int .u64 p, .int .i64 m, .int .i64 f, .bool neg, .slice A mm cc, .int .i64 x]] w (SpcPost w p m f neg) := by
  have hu := Tryz.underlying25
  have hpb : ((p : Int) == 0) = false := by rw [beq_eq_false_iff_ne]; omega
  have hpd : decide ((4294967295 : Int) < (p : Int)) = false := decide_eq_false (by omega)
  have hmw : IntKind.u8.wrap m = m := by rw [IntKind.wrap_u8']; omega
  have hpw : IntKind.u32.wrap (p : Int) = (p : Int) := by rw [IntKind.wrap_u32']; omega
  have HB : Aside0 (Below w.heap.size w w) := ⟨Below.refl _ _⟩
  obtain rfl | rfl := hf
  · cases neg with
    | false =>
      go_enter Tryz.func40, Tryz.ntmps40
      go_wp2_with (go_in)
      go_ret
      exact ⟨_, by simp, rfl, by unfold Spc; exact (by simp (disch := first | omega | (simp; omega) | (simp; done) | fail) [hp_new, hp_old, hp_here, hp_other, setObj_cells, hp_drew, hp_drewN]), (by repeat (first | (with_reducible first | exact HB.out | apply below_alloc | apply pw_below_drewN | apply below_drew1 | refine below_set ?_ (by simp)) | exact HB.out))⟩
    | true =>
      go_enter Tryz.func40, Tryz.ntmps40
      go_wp2_with ((fail_if_success go_at_call 58); go_in)
      refine (neg_self (w.heap.size + 1) p m 0 0 false none 0 0 0 _ (by simp (disch := first | omega | (simp; omega) | (simp; done) | fail) [hp_new, hp_old, hp_here, hp_other, setObj_cells, hp_drew, hp_drewN])).mono ?_
      rintro e w1 ⟨rfl, rfl⟩
      go_wp2_with (fail)
      go_ret
      exact ⟨_, by simp, rfl, by unfold Spc; exact (by simp (disch := first | omega | (simp; omega) | (simp; done) | fail) [hp_new, hp_old, hp_here, hp_other, setObj_cells, hp_drew, hp_drewN]), (by repeat (first | (with_reducible first | exact HB.out | apply below_alloc | apply pw_below_drewN | apply below_drew1 | refine below_set ?_ (by simp)) | exact HB.out))⟩
  · go_enter Tryz.func40, Tryz.ntmps40
    go_wp2_with (go_in)
    go_ret
    exact ⟨_, by simp, rfl, by unfold Spc; exact (by simp (disch := first | omega | (simp; omega) | (simp; done) | fail) [hp_new, hp_old, hp_here, hp_other, setObj_cells, hp_drew, hp_drewN]), (by repeat (first | (with_reducible first | exact HB.out | apply below_alloc | apply pw_below_drewN | apply below_drew1 | refine below_set ?_ (by simp)) | exact HB.out))⟩
set_option maxHeartbeats 3200000 in
set_option maxRecDepth 100000 in
theorem exact_spc (p : Nat) (m f x : Int) (neg : Bool) (A : Option Addr) (mm cc : Nat) (w : World) (hf : f = 0 ∨ f = 2) (hp1 : 1 ≤ p ∧ p ≤ 600000) (hm : 0 ≤ m ∧ m < 6) :
    Calls Tryz.prog 28 #[.agg #[.int .u64 p, .int .i64 m, .int .i64 f, .bool neg, .slice A mm cc, .int .i64 x]] w (SpcPost w p m f neg) := by
  have hmw : IntKind.u8.wrap m = m := by rw [IntKind.wrap_u8']; omega
  have HB0 := Aside0.mk (below_alloc (Below.refl w.heap.size w) (.cells #[.int .u64 p, .int .i64 m, .int .i64 f, .bool neg, .slice A mm cc, .int .i64 x] 25))
  have KX := Aside0.mk (show hp (w.alloc (.cells #[.int .u64 p, .int .i64 m, .int .i64 f, .bool neg, .slice A mm cc, .int .i64 x] 25)) w.heap.size = some (.cells #[.int .u64 p, .int .i64 m, .int .i64 f, .bool neg, .slice A mm cc, .int .i64 x] 25 (0, 0)) from (by simp (disch := first | omega | (simp; omega) | (simp; done) | fail) [hp_new, hp_old, hp_here, hp_other, setObj_cells, hp_drew, hp_drewN]))
  have HFL := Aside0.mk (fun W => float_spc p m f x neg A mm cc W hf hp1 hm)
  have HBD := Aside0.mk (below_drew1 HB0.out)
  go_enter Tryz.func28, Tryz.ntmps28
  go_upto_region 1 with (fail)
  obtain ⟨w1, hw1⟩ : ∃ w1, w1 = w.alloc (.cells #[.int .u64 p, .int .i64 m, .int .i64 f, .bool neg, .slice A mm cc, .int .i64 x] 25) := ⟨_, rfl⟩
  rw [← hw1] at HB0 KX HBD ⊢
  clear hw1
  obtain ⟨c0, c1, c2, c3, c4, c5, f0, f1, f2, f3, f4, f5⟩ := blk6 KX.out
  have l1 := hp_lt KX.out
  refine start_ (n := 7) (S := fun w' => w'.cell? ⟨w.heap.size, 0, none⟩ = some (.int .u64 p) ∧ w'.cell? ⟨w.heap.size, 1, none⟩ = some (.int .i64 m) ∧ w'.cell? ⟨w.heap.size, 2, none⟩ = some (.int .i64 f) ∧ w'.cell? ⟨w.heap.size, 3, none⟩ = some (.bool neg) ∧ w'.cell? ⟨w.heap.size, 4, none⟩ = some (.slice A mm cc) ∧ w'.cell? ⟨w.heap.size, 5, none⟩ = some (.int .i64 x)) (ds := [5]) #[false, false, false, false, false, false, false] (by kernel_rfl) rfl rfl ⟨(by go_simp), (by go_simp), (by go_simp), (by go_simp), (by go_simp), (by go_simp)⟩ (fun hHeld => ?_)
  refine pure_ (i := 2) (N := some 5) (v := ?_) (a' := ?_) #[false, false, true, false, false, false, false] rfl rfl (by kernel_rfl) (fun _ _ _ h => h) (Or.inl ⟨by rfl, ?_⟩) ?_ ?_
  rotate_left
  · intro w'
    go_simp
    with_reducible rfl
  rotate_left
  · simp only [Act.put, List.setIfInBounds_toArray, List.set_cons_zero, List.set_cons_succ, i64_w, i32_w]
    rfl
  refine take_ (i := 0) (N := some 3) (v := ?_) (a' := ?_) #[true, false, true, false, false, false, false] rfl rfl (by kernel_rfl) (fun _ _ _ h => h) (Or.inl ⟨by rfl, ?_⟩) hHeld ?_ ?_
  rotate_left
  · rintro w' ⟨s0, s1, s2, s3, s4, s5⟩
    go_simp
    with_reducible rfl
  rotate_left
  · simp only [Act.put, List.setIfInBounds_toArray, List.set_cons_zero, List.set_cons_succ, i64_w, i32_w]
    rfl
  refine take_ (i := 3) (N := some 6) (v := ?_) (a' := ?_) #[true, false, true, true, false, false, false] rfl rfl (by kernel_rfl) (fun _ _ _ h => h) (Or.inl ⟨by rfl, ?_⟩) hHeld ?_ ?_
  rotate_left
  · rintro w' ⟨s0, s1, s2, s3, s4, s5⟩
    go_simp
    with_reducible rfl
  rotate_left
  · simp only [Act.put, List.setIfInBounds_toArray, List.set_cons_zero, List.set_cons_succ, i64_w, i32_w]
    rfl
  refine pure_ (i := 4) (N := some 7) (v := ?_) (a' := ?_) #[true, false, true, true, true, false, false] rfl rfl (by kernel_rfl) (fun _ _ _ h => h) (Or.inl ⟨by rfl, ?_⟩) ?_ ?_
  rotate_left
  · intro w'
    go_simp
    with_reducible rfl
  rotate_left
  · simp only [Act.put, List.setIfInBounds_toArray, List.set_cons_zero, List.set_cons_succ, i64_w, i32_w]
    rfl
  refine one_ (i := 1) (N := some 4) #[true, true, true, true, true, false, false] rfl rfl (by kernel_rfl) (by decide) (fun K hK => ?_)
  refine goes_ Tryz.func40 (by kernel_rfl) rfl #[.agg #[.int .u64 p, .int .i64 m, .int .i64 f, .bool neg, .slice A mm cc, .int .i64 x]] (by rfl) rfl rfl (by simp only [List.map_toArray, List.map_cons, List.map_nil]; rfl) ?_
  with_reducible refine (HFL.out w1.drew).mono ?_
  rintro e w2 ⟨g, hg, rfl, hO, hb2⟩
  refine ⟨_, rfl, ?_⟩
  have hb3 := below_step HBD.out hb2
  obtain ⟨q0, q1, q2, q3, q4, q5, _, _, _, _, _, _⟩ := blk6 (hp_below (show hp w1.drew w.heap.size = _ from KX.out) hb2)
  have HO := Aside0.mk hO
  refine hK.out _ _ ⟨q0, q1, q2, q3, q4, q5⟩ (fun hHeld => ?_)
  clear hK K
  refine norm_ (a' := ?_) ?_ ?_
  rotate_left
  · show Act.put _ (some 4) _ = _
    simp only [Act.put, List.setIfInBounds_toArray, List.set_cons_zero, List.set_cons_succ, i64_w, i32_w]
    rfl
  refine last_ (i := 5) (N := some 8) #[true, true, true, true, true, true, false] rfl rfl (by kernel_rfl) (by decide) (fun K hK => ?_)
  refine goes_ Tryz.func41 (by kernel_rfl) rfl #[.pointer (some ⟨g, 0, none⟩), .int .u8 m] (by rfl) rfl rfl (by simp only [List.map_toArray, List.map_cons, List.map_nil]; rfl) ?_
  with_reducible refine (setMode_c g p m 0 f m neg (.slice none 0 0) 0 w2 HO.out.blk).mono ?_
  rintro e w3 ⟨rfl, rfl⟩
  refine ⟨_, rfl, ?_⟩
  refine hK.out _ _ ?_
  clear hK K
  refine norm_ (a' := ?_) ?_ ?_
  rotate_left
  · show Act.put _ (some 8) _ = _
    simp only [Act.put, List.setIfInBounds_toArray, List.set_cons_zero, List.set_cons_succ, i64_w, i32_w]
    rfl
  refine pure_ (i := 6) (N := some 2) (v := ?_) (a' := ?_) #[true, true, true, true, true, true, true] rfl rfl (by kernel_rfl) (fun _ _ _ h => h) (Or.inl ⟨by rfl, ?_⟩) ?_ ?_
  rotate_left
  · intro w'
    go_simp
    with_reducible rfl
  rotate_left
  · simp only [Act.put, List.setIfInBounds_toArray, List.set_cons_zero, List.set_cons_succ, i64_w, i32_w]
    rfl
  refine done_ (by kernel_rfl) ?_
  go_wp2_with (fail)
  go_ret
  have hg2 : w.heap.size ≤ g := Nat.le_trans HBD.out.size hg
  exact ⟨g, hg2, rfl, HO.out.mode m, (hb3.setCell (p := ⟨g, 1, none⟩) hg2 _).setCell (p := ⟨g, 2, none⟩) hg2 _⟩
end Go.Proofs.YtfnknldbjckgoaaGreatDoor.Sp
end

/-! ## BothC -/
section
namespace Go.Proofs.YtfnknldbjckgoaaGreatDoor.Sp
open Go.RowKit Go.Proofs.YtfnknldbjckgoaaGreatDoorW.PrintWords Go.Proofs.YtfnknldbjckgoaaGreatDoorW.PrintLast Go.Proofs.YtfnknldbjckgoaaGreatDoorW.PrintMore Go.Proofs.YtfnknldbjckgoaaGreatDoor.Dig
set_option linter.unusedVariables false
set_option linter.unusedSimpArgs false
/-! ### whatever form -/
/-- A Float of the call's own, of whatever form (v times 2 to the x, of b bits, n noughts at its end). -/
def Fl (w0 w : World) (g p : Nat) (m f : Int) (neg : Bool) (v x : Int) (b n : Nat) : Prop := (f = 1 ∧ Own w0 w g p m neg v x b ∧ Tz v n ∧ Bits v b ∧ 0 < v) ∨ ((f = 0 ∨ f = 2) ∧ w0.heap.size ≤ g ∧ Spc w g p m f neg)
def tx (f x : Int) (n : Nat) : Int := if f = 1 then x + n else 0
/-- A Real that came in and is valid. -/
def ROk (w : World) (p : Nat) (m f : Int) (A : Option Addr) (mm cc : Nat) (x v : Int) (b n : Nat) (X : List Int) : Prop :=
  (1 ≤ p ∧ p ≤ 600000) ∧ (0 ≤ m ∧ m < 6) ∧ ((f = 0 ∨ f = 2) ∨ (f = 1 ∧ Ws w (.slice A mm cc) X ∧ X.length ≤ 10000 ∧ ev BW X = v ∧ 0 < v ∧ Bits v b ∧ Tz v n ∧ b ≤ p ∧ -500000000 ≤ x ∧ x ≤ 500000000))
theorem ROk.below {w w1 : World} {p : Nat} {m f : Int} {A : Option Addr} {mm cc : Nat} {x v : Int} {b n : Nat} {X : List Int} (h : ROk w p m f A mm cc x v b n X) (hb : Below w.heap.size w w1) : ROk w1 p m f A mm cc x v b n X := by
  obtain ⟨h1, h2, h3 | ⟨h3, h4, h5⟩⟩ := h
  · exact ⟨h1, h2, .inl h3⟩
  · exact ⟨h1, h2, .inr ⟨h3, h4.below hb, h5⟩⟩
theorem Own.below {w0 w w1 : World} {g p : Nat} {m : Int} {neg : Bool} {v x : Int} {b : Nat} (h : Own w0 w g p m neg v x b) (hb : Below w.heap.size w w1) : Own w0 w1 g p m neg v x b := by
  obtain ⟨mb, L, R, c, h1, h2, h3, h4, h5⟩ := h
  exact ⟨mb, L, R, c, h1, h2, h3, h4.below hb, h5⟩
theorem Fl.below {w0 w w1 : World} {g p : Nat} {m f : Int} {neg : Bool} {v x : Int} {b n : Nat} (h : Fl w0 w g p m f neg v x b n) (hb : Below w.heap.size w w1) : Fl w0 w1 g p m f neg v x b n := by
  rcases h with ⟨h1, h2, h3⟩ | ⟨h1, h2, h3⟩
  · exact .inl ⟨h1, h2.below hb, h3⟩
  · exact .inr ⟨h1, h2, hp_below h3 hb⟩
theorem Fl.mono {w0 w1 w : World} {g p : Nat} {m f : Int} {neg : Bool} {v x : Int} {b n : Nat} (h : Fl w1 w g p m f neg v x b n) (hs : w0.heap.size ≤ w1.heap.size) : Fl w0 w g p m f neg v x b n := by
  rcases h with ⟨h1, h2, h3⟩ | ⟨h1, h2, h3⟩
  · exact .inl ⟨h1, h2.mono hs, h3⟩
  · exact .inr ⟨h1, Nat.le_trans hs h2, h3⟩
theorem Fl.ge {w0 w : World} {g p : Nat} {m f : Int} {neg : Bool} {v x : Int} {b n : Nat} (h : Fl w0 w g p m f neg v x b n) : w0.heap.size ≤ g := by
  rcases h with ⟨h1, ⟨mb, L, R, c, h2, _⟩, h3⟩ | ⟨h1, h2, h3⟩
  · exact h2
  · exact h2
theorem Fl.cells {w0 w : World} {g p : Nat} {m f : Int} {neg : Bool} {v x : Int} {b n : Nat} (h : Fl w0 w g p m f neg v x b n) : ∃ V E, hp w g = some (.cells #[.int .u32 p, .int .u8 m, .int .i8 0, .int .u8 f, .bool neg, V, .int .i32 E] 83 (0, 0)) := by
  rcases h with ⟨rfl, ⟨mb, L, R, c, h2, h3, h4, h5, _⟩, _⟩ | ⟨h1, h2, h3⟩
  · exact ⟨_, _, h5.flt⟩
  · exact ⟨_, _, h3⟩
theorem Fl.mode {w0 w : World} {g p : Nat} {m f : Int} {neg : Bool} {v x : Int} {b n : Nat} (h : Fl w0 w g p m f neg v x b n) (k : Int) : Fl w0 ((w.setCell ⟨g, 1, none⟩ (.int .u8 k)).setCell ⟨g, 2, none⟩ (.int .i8 0)) g p k f neg v x b n := by
  rcases h with ⟨h1, h2, h3⟩ | ⟨h1, h2, h3⟩
  · exact .inl ⟨h1, h2.mode k, h3⟩
  · exact .inr ⟨h1, h2, h3.mode k⟩
theorem exact_fl (p : Nat) (m f : Int) (neg : Bool) (A : Option Addr) (mm cc : Nat) (x v : Int) (b n : Nat) (X : List Int) (w : World) (h : ROk w p m f A mm cc x v b n X) :
    Calls Tryz.prog 28 #[.agg #[.int .u64 p, .int .i64 m, .int .i64 f, .bool neg, .slice A mm cc, .int .i64 x]] w fun e w' => ∃ g, e = .returned (.pointer (some ⟨g, 0, none⟩)) ∧ Fl w w' g p m f neg v x b n ∧ Below w.heap.size w w' := by
  obtain ⟨h1, h2, h3 | ⟨rfl, h3, h4, h5, h6, h7, h8, h9, h10⟩⟩ := h
  · refine (exact_spc p m f x neg A mm cc w h3 h1 h2).mono ?_
    rintro e w' ⟨g, hg, rfl, hs, hb⟩
    exact ⟨g, rfl, .inr ⟨h3, hg, hs⟩, hb⟩
  · refine (exact_c p b m neg A mm cc x v X w h3 h4 h5 h6 h7 h9 h1 h2 (by omega)).mono ?_
    rintro e w' ⟨g, rfl, hO, hb⟩
    exact ⟨g, rfl, .inl ⟨rfl, hO, h8, h7, h6⟩, hb⟩
end Go.Proofs.YtfnknldbjckgoaaGreatDoor.Sp
end
