/-
  CONTRACT of Float.SetFloat64 at a new Float and a finite number that is not 0.
-/
import Derived.Test.YtglikgjaobedbaaDoorFrexp
import Derived.Test.YtglikgjaobedbaaDoorGexa
namespace Go.Proofs.YtglikgjaobedbaaDoor.Sp
open Go.RowKit Go.Proofs.YtglikgjaobedbaaDoorW.PrintWords Go.Proofs.YtglikgjaobedbaaDoorW.PrintLast Go.Proofs.YtglikgjaobedbaaDoorW.PrintMore Go.Proofs.YtglikgjaobedbaaDoor.Dig Go.Proofs.YtglikgjaobedbaaDoor.Flo
set_option linter.unusedVariables false
set_option linter.unusedSimpArgs false
set_option maxHeartbeats 3200000 in
set_option maxRecDepth 100000 in
theorem setUx_c (x : Nat) (h1 : 1 ≤ x) (h2 : x < 18446744073709551616) (w : World) : Calls Tryd.prog 73 #[.slice none 0 0, .int .u64 (x : Int)] w (SetPostW w (fun _ => False) [(x : Int)]) := by
  have hxb : ((x : Int) == 0) = false := by rw [beq_eq_false_iff_ne]; omega
  have HM := Aside0.mk (make_c (.slice none 0 0) (fun _ => False) 1 w (.inl rfl) (by omega) (by omega))
  go_enter Tryd.func73, Tryd.ntmps73
  go_wp2_with ((fail_if_success go_at_call 98); go_in)
  refine (HM.out).mono ?_
  rintro e w1 ⟨mb, Z, rfl, hn, hmax, hmb, hm, hokZ, hk⟩
  have c0 : w1.cell? ⟨mb, 0, none⟩ = some (.int .u64 (Z.getD 0 0)) := (blk_cell hm 0).trans (u64s_get Z 0 (by omega))
  have f0 : w1.frozen? ⟨mb, 0, none⟩ = false := blk_frozen hm 0
  have lm := hp_lt hm
  have HMM := Aside0.mk hm
  have HK := Aside0.mk hk
  have HO := Aside0.mk hokZ
  have hmb2 : mb = w.heap.size := by rcases hmb with h | h; exact h.elim; exact h
  have HMB := Aside0.mk hmb2
  clear hm hk hokZ hmb hmb2 HM
  go_wp2_with (fail)
  go_ret
  obtain ⟨z, Z, rfl⟩ : ∃ z Z', Z = z :: Z' := by
    cases Z with
    | nil => simp at hn
    | cons z Z' => exact ⟨z, Z', rfl⟩
  refine ⟨mb, Z, (z :: Z).length, rfl, by simp, hmax, .inr HMB.out, ?_, ?_, HK.out.setCell (p := ⟨mb, 0, none⟩) (.inr (by have := HMB.out; show w.heap.size ≤ mb; omega)) _⟩
  · rw [hp_here _ _ _ _ _ rfl, HMM.out]
    simp only [Option.map_some, setObj_cells, u64s_set]
    rfl
  · exact okd_cons.2 ⟨by rw [BW_def]; omega, (okd_cons.1 HO.out).2⟩
/-- The mantissa's word. -/
def mw (N : Nat) : Nat := 9223372036854775808 + frf N % 4503599627370496 * 2048
theorem mw_b (N : Nat) : 9223372036854775808 ≤ mw N ∧ mw N < 18446744073709551616 := by unfold mw; omega
theorem mw_shl (N : Nat) : Go.bits .or .u64 9223372036854775808 (shl .u64 (frf N : Int) 11) = (mw N : Int) := by
  have e : shl .u64 (frf N : Int) 11 = ((frf N % 4503599627370496 * 2048 : Nat) : Int) := by
    unfold shl
    show IntKind.u64.wrap ((frf N : Int) * 2 ^ 11) = _
    rw [IntKind.wrap_u64]
    unfold frf
    omega
  rw [e, or_top _ (by omega)]
  rfl
theorem fre_b (N : Nat) : -1100 ≤ fre N ∧ fre N ≤ 1100 := by
  have : nze N = -52 ∨ nze N = 0 := by unfold nze; split <;> simp
  unfold fre
  omega
/-- What SetFloat64 leaves: rounded where the precision is below 53. -/
def SetFPost (w : World) (g P : Nat) (m : Int) (N : Nat) (e : Ending) (w' : World) : Prop := e = .returned (.pointer (some ⟨g, 0, none⟩)) ∧ ∃ mb R c w2, w.heap.size ≤ mb ∧ ([(mw N : Int)] ++ R).length = c ∧ Flt w2 g mb P m 0 1 (sg N) 1 c (fre N) ([(mw N : Int)] ++ R) ∧ Kept (On g) w w2 ∧ ((53 ≤ P ∧ w' = w2) ∨ (P < 53 ∧ RoundPost w2 g mb P m (sg N) c (fre N) [(mw N : Int)] R false (.returned (.tuple #[])) w'))
set_option maxHeartbeats 6400000 in
set_option maxRecDepth 100000 in
theorem setF_c (g p : Nat) (m : Int) (N : Nat) (w : World) (h : hp w g = some (.cells #[.int .u32 p, .int .u8 m, .int .i8 0, .int .u8 0, .bool false, .slice none 0 0, .int .i32 0] 91 (0, 0))) (hpm : p ≤ 100000) (hm : 0 ≤ m ∧ m < 6) (hN : N < 18446744073709551616) (h0 : 0 < N % 9223372036854775808) (h2 : N % 9223372036854775808 < 9218868437227405312) :
    Calls Tryd.prog 45 #[.pointer (some ⟨g, 0, none⟩), .float .f64 N] w (SetFPost w g (if p = 0 then 53 else p) m N) := by
  obtain ⟨c0, c1, c2, c3, c4, c5, c6, f0, f1, f2, f3, f4, f5, f6⟩ := blk7 h
  have lg0 := hp_lt h
  have H := Aside0.mk h
  have HN := Aside0.mk (fun W => isInf_no N W hN h2)
  have HA := Aside0.mk (fun W => isNaN_no N W (by omega))
  have HS := Aside0.mk (fun W => signbit_c N W hN)
  have HX := Aside0.mk (fun W => frexp2_c N W hN h0 h2)
  have hz : (FloatKind.f64.format.order N 0 == some .eq) = false := by rw [beq_eq_false_iff_ne]; exact order_nonzero N h0
  have hb := f64bits (frf N)
  have hfe : -1100 ≤ fre N ∧ fre N ≤ 1100 := fre_b N
  have hw32 : IntKind.i32.wrap (fre N) = fre N := IntWalk.i32_in _ (by omega)
  clear h
  have hm' := hm
  clear hm
  by_cases hp0 : p = 0
  · subst hp0
    rw [if_pos rfl]
    go_enter Tryd.func45, Tryd.ntmps45
    go_upto_region 15 with (first | (go_at_call 71; refine (HN.out _).mono ?_; rintro e w' ⟨rfl, rfl⟩) | (go_at_call 66; refine (HA.out _).mono ?_; rintro e w' ⟨rfl, rfl⟩) | (go_at_call 70; refine (HS.out _).mono ?_; rintro e w' ⟨rfl, rfl⟩) | (go_at_call 72; refine (HX.out _).mono ?_; rintro e w' ⟨rfl, rfl⟩))
    obtain ⟨w1, hw1⟩ : ∃ w1, w1 = (((w.setCell ⟨g, 0, none⟩ (.int .u32 53)).setCell ⟨g, 2, none⟩ (.int .i8 0)).setCell ⟨g, 4, none⟩ (.bool (sg N))).setCell ⟨g, 3, none⟩ (.int .u8 1) := ⟨_, rfl⟩
    have HK1 : Aside0 (Kept (On g) w w1) := ⟨by rw [hw1]; exact ((((Kept.refl (On g) w).setCell (p := ⟨g, 0, none⟩) (.inl rfl) _).setCell (p := ⟨g, 2, none⟩) (.inl rfl) _).setCell (p := ⟨g, 4, none⟩) (.inl rfl) _).setCell (p := ⟨g, 3, none⟩) (.inl rfl) _⟩
    have HG1 : Aside0 (hp w1 g = some (.cells #[.int .u32 53, .int .u8 m, .int .i8 0, .int .u8 1, .bool (sg N), .slice none 0 0, .int .i32 0] 91 (0, 0))) := ⟨by rw [hw1, hp_here _ _ _ _ _ rfl, hp_here _ _ _ _ _ rfl, hp_here _ _ _ _ _ rfl, hp_here _ _ _ _ _ rfl, H.out]; rfl⟩
    rw [← hw1]
    clear hw1 c0 c1 c2 c3 c4 c5 c6 f0 f1 f2 f3 f4 f5 f6
    have hs1 : w.heap.size ≤ w1.heap.size := HK1.out.size
    obtain ⟨c0, c1, c2, c3, c4, c5, c6, f0, f1, f2, f3, f4, f5, f6⟩ := blk7 HG1.out
    have lg := hp_lt HG1.out
    have HU : Aside0 (Calls Tryd.prog 73 #[.slice none 0 0, .int .u64 (Go.bits .or .u64 9223372036854775808 (shl .u64 (frf N : Int) 11))] w1.drew (SetPostW w1.drew (fun _ => False) [(mw N : Int)])) := ⟨by rw [mw_shl]; exact setUx_c (mw N) (by have := mw_b N; omega) (mw_b N).2 w1.drew⟩
    refine start_ (n := 13) (S := fun w' => w'.cell? ⟨g, 5, none⟩ = some (.slice none 0 0)) (ds := [12]) #[false, false, false, false, false, false, false, false, false, false, false, false, false] (by kernel_rfl) rfl rfl ((by go_simp)) (fun hHeld => ?_)
    refine pure_ (i := 0) (N := some 47) (v := ?_) (a' := ?_) #[true, false, false, false, false, false, false, false, false, false, false, false, false] rfl rfl (by kernel_rfl) (fun _ _ _ h => h) (Or.inl ⟨by rfl, ?_⟩) ?_ ?_
    rotate_left
    · intro w'
      go_simp
      with_reducible rfl
    rotate_left
    · simp only [Act.put, List.setIfInBounds_toArray, List.set_cons_zero, List.set_cons_succ, i64_w, i32_w]
      rfl
    refine pure_ (i := 1) (N := some 48) (v := ?_) (a' := ?_) #[true, true, false, false, false, false, false, false, false, false, false, false, false] rfl rfl (by kernel_rfl) (fun _ _ _ h => h) (Or.inl ⟨by rfl, ?_⟩) ?_ ?_
    rotate_left
    · intro w'
      go_simp
      with_reducible rfl
    rotate_left
    · simp only [Act.put, List.setIfInBounds_toArray, List.set_cons_zero, List.set_cons_succ, i64_w, i32_w]
      rfl
    refine pure_ (i := 2) (N := some 49) (v := ?_) (a' := ?_) #[true, true, true, false, false, false, false, false, false, false, false, false, false] rfl rfl (by kernel_rfl) (fun _ _ _ h => h) (Or.inl ⟨by rfl, ?_⟩) ?_ ?_
    rotate_left
    · intro w'
      go_simp
      with_reducible rfl
    rotate_left
    · simp only [Act.put, List.setIfInBounds_toArray, List.set_cons_zero, List.set_cons_succ, i64_w, i32_w]
      rfl
    refine pure_ (i := 3) (N := some 50) (v := ?_) (a' := ?_) #[true, true, true, true, false, false, false, false, false, false, false, false, false] rfl rfl (by kernel_rfl) (fun _ _ _ h => h) (Or.inl ⟨by rfl, ?_⟩) ?_ ?_
    rotate_left
    · intro w'
      go_simp
      with_reducible rfl
    rotate_left
    · simp only [Act.put, List.setIfInBounds_toArray, List.set_cons_zero, List.set_cons_succ, i64_w, i32_w]
      rfl
    refine pure_ (i := 5) (N := some 52) (v := ?_) (a' := ?_) #[true, true, true, true, false, true, false, false, false, false, false, false, false] rfl rfl (by kernel_rfl) (fun _ _ _ h => h) (Or.inl ⟨by rfl, ?_⟩) ?_ ?_
    rotate_left
    · intro w'
      go_simp
      with_reducible rfl
    rotate_left
    · simp only [Act.put, List.setIfInBounds_toArray, List.set_cons_zero, List.set_cons_succ, i64_w, i32_w]
      rfl
    refine take_ (i := 4) (N := some 51) (v := ?_) (a' := ?_) #[true, true, true, true, true, true, false, false, false, false, false, false, false] rfl rfl (by kernel_rfl) (fun _ _ _ h => h) (Or.inl ⟨by rfl, ?_⟩) hHeld ?_ ?_
    rotate_left
    · intro w' s0
      go_simp
      with_reducible rfl
    rotate_left
    · simp only [Act.put, List.setIfInBounds_toArray, List.set_cons_zero, List.set_cons_succ, i64_w, i32_w]
      rfl
    refine one_ (i := 6) (N := some 53) #[true, true, true, true, true, true, true, false, false, false, false, false, false] rfl rfl (by kernel_rfl) (by decide) (fun K hK => ?_)
    refine value_ (w1 := ?_) (v := ?_) (by rfl) rfl ?_ ?_
    rotate_left 2
    · go_simp
      constructor
      · rfl
      · rfl
    refine hK.out _ _ ((by go_simp)) (fun hHeld => ?_)
    clear hK K
    refine norm_ (a' := ?_) ?_ ?_
    rotate_left
    · show Act.put _ (some 53) _ = _
      simp only [Act.put, List.setIfInBounds_toArray, List.set_cons_zero, List.set_cons_succ, i64_w, i32_w]
      rfl
    refine pure_ (i := 7) (N := some 54) (v := ?_) (a' := ?_) #[true, true, true, true, true, true, true, true, false, false, false, false, false] rfl rfl (by kernel_rfl) (fun _ _ _ h => h) (Or.inl ⟨by rfl, ?_⟩) ?_ ?_
    rotate_left
    · intro w'
      go_simp
      with_reducible rfl
    rotate_left
    · simp only [Act.put, List.setIfInBounds_toArray, List.set_cons_zero, List.set_cons_succ, i64_w, i32_w]
      rfl
    refine pure_ (i := 8) (N := some 55) (v := ?_) (a' := ?_) #[true, true, true, true, true, true, true, true, true, false, false, false, false] rfl rfl (by kernel_rfl) (fun _ _ _ h => h) (Or.inl ⟨by rfl, ?_⟩) ?_ ?_
    rotate_left
    · intro w'
      go_simp
      with_reducible rfl
    rotate_left
    · simp only [Act.put, List.setIfInBounds_toArray, List.set_cons_zero, List.set_cons_succ, i64_w, i32_w]
      rfl
    refine one_ (i := 9) (N := some 56) #[true, true, true, true, true, true, true, true, true, true, false, false, false] rfl rfl (by kernel_rfl) (by decide) (fun K hK => ?_)
    refine goes_ Tryd.func73 (by kernel_rfl) rfl #[.slice none 0 0, .int .u64 (Go.bits .or .u64 9223372036854775808 (shl .u64 (frf N : Int) 11))] (by rfl) rfl rfl (by simp only [List.map_toArray, List.map_cons, List.map_nil]; rfl) ?_
    with_reducible refine (HU.out).mono ?_
    rintro e w2 ⟨mb, R, c, rfl, hc, hmax, hmb, hm, hok, hk⟩
    refine ⟨_, rfl, ?_⟩
    have hmb2 : mb = w1.heap.size := by rcases hmb with h | h; exact h.elim; exact h
    have hz2 := hp_kept (show hp w1.drew g = _ from HG1.out) hk (fun h => h)
    have e5 := (blk7 hz2).2.2.2.2.2.1
    have g5 : w2.frozen? ⟨g, 5, none⟩ = false := blk_frozen hz2 5
    refine hK.out _ _ (e5) (fun hHeld => ?_)
    clear hK K
    refine norm_ (a' := ?_) ?_ ?_
    rotate_left
    · show Act.put _ (some 56) _ = _
      simp only [Act.put, List.setIfInBounds_toArray, List.set_cons_zero, List.set_cons_succ, i64_w, i32_w]
      rfl
    refine pure_ (i := 10) (N := some 57) (v := ?_) (a' := ?_) #[true, true, true, true, true, true, true, true, true, true, true, false, false] rfl rfl (by kernel_rfl) (fun _ _ _ h => h) (Or.inl ⟨by rfl, ?_⟩) ?_ ?_
    rotate_left
    · intro w'
      go_simp
      with_reducible rfl
    rotate_left
    · simp only [Act.put, List.setIfInBounds_toArray, List.set_cons_zero, List.set_cons_succ, i64_w, i32_w]
      rfl
    refine pure_ (i := 11) (N := some 58) (v := ?_) (a' := ?_) #[true, true, true, true, true, true, true, true, true, true, true, true, false] rfl rfl (by kernel_rfl) (fun _ _ _ h => h) (Or.inl ⟨by rfl, ?_⟩) ?_ ?_
    rotate_left
    · intro w'
      go_simp
      with_reducible rfl
    rotate_left
    · simp only [Act.put, List.setIfInBounds_toArray, List.set_cons_zero, List.set_cons_succ, i64_w, i32_w]
      rfl
    refine last_ (i := 12) (N := none) #[true, true, true, true, true, true, true, true, true, true, true, true, true] rfl rfl (by kernel_rfl) (by decide) (fun K hK => ?_)
    refine skip_ (w1 := ?_) (by rfl) rfl ?_ ?_
    rotate_left
    · go_simp
      rfl
    refine hK.out _ _ ?_
    clear hK K
    refine done_ (by kernel_rfl) ?_
    have hgm : g ≠ mb := by omega
    obtain ⟨b0, b1, b2, b3, b4, b5, b6, g0, g1, g2, g3, g4, _, g6⟩ := blk7 hz2
    have lg2 := hp_lt hz2
    have HF3 : Aside0 (Flt ((w2.setCell ⟨g, 5, none⟩ (.slice (some ⟨mb, 0, none⟩) 1 c)).setCell ⟨g, 6, none⟩ (.int .i32 (fre N))) g mb 53 m 0 1 (sg N) 1 c (fre N) ([(mw N : Int)] ++ R)) := ⟨⟨by rw [hp_here _ _ _ _ _ rfl, hp_here _ _ _ _ _ rfl, hz2]; rfl, by rw [hp_other _ _ _ _ hgm, hp_other _ _ _ _ hgm]; exact hm, hgm, hok, by simp, by rw [← hc]; simp, by rw [hc]; exact hmax⟩⟩
    have HK3 : Aside0 (Kept (On g) w ((w2.setCell ⟨g, 5, none⟩ (.slice (some ⟨mb, 0, none⟩) 1 c)).setCell ⟨g, 6, none⟩ (.int .i32 (fre N)))) := ⟨((HK1.out.drew.trans hk (fun _ _ h => h.elim)).setCell (p := ⟨g, 5, none⟩) (.inl rfl) _).setCell (p := ⟨g, 6, none⟩) (.inl rfl) _⟩
    have HC := Aside0.mk hc
    have HMB := Aside0.mk (show w.heap.size ≤ mb by omega)
    rw [← hmb2]
    clear hc hmax hmb hm hok hk hmb2 hz2 HG1 HK1 HU hHeld e5 c0 c1 c2 c3 c4 c5 c6 f0 f1 f2 f3 f4 f5 f6
    go_wp2_with (fail)
    go_ret
    exact ⟨rfl, mb, R, c, _, HMB.out, HC.out, HF3.out, HK3.out, .inl ⟨by omega, rfl⟩⟩
  rw [if_neg hp0]
  have hpb : ((p : Int) == 0) = false := by rw [beq_eq_false_iff_ne]; omega
  by_cases hp53 : p < 53
  · have hd : decide ((p : Int) < 53) = true := decide_eq_true (by omega)
    go_enter Tryd.func45, Tryd.ntmps45
    go_upto_region 15 with (first | (go_at_call 71; refine (HN.out _).mono ?_; rintro e w' ⟨rfl, rfl⟩) | (go_at_call 66; refine (HA.out _).mono ?_; rintro e w' ⟨rfl, rfl⟩) | (go_at_call 70; refine (HS.out _).mono ?_; rintro e w' ⟨rfl, rfl⟩) | (go_at_call 72; refine (HX.out _).mono ?_; rintro e w' ⟨rfl, rfl⟩))
    obtain ⟨w1, hw1⟩ : ∃ w1, w1 = ((w.setCell ⟨g, 2, none⟩ (.int .i8 0)).setCell ⟨g, 4, none⟩ (.bool (sg N))).setCell ⟨g, 3, none⟩ (.int .u8 1) := ⟨_, rfl⟩
    have HK1 : Aside0 (Kept (On g) w w1) := ⟨by rw [hw1]; exact (((Kept.refl (On g) w).setCell (p := ⟨g, 2, none⟩) (.inl rfl) _).setCell (p := ⟨g, 4, none⟩) (.inl rfl) _).setCell (p := ⟨g, 3, none⟩) (.inl rfl) _⟩
    have HG1 : Aside0 (hp w1 g = some (.cells #[.int .u32 p, .int .u8 m, .int .i8 0, .int .u8 1, .bool (sg N), .slice none 0 0, .int .i32 0] 91 (0, 0))) := ⟨by rw [hw1, hp_here _ _ _ _ _ rfl, hp_here _ _ _ _ _ rfl, hp_here _ _ _ _ _ rfl, H.out]; rfl⟩
    rw [← hw1]
    clear hw1 c0 c1 c2 c3 c4 c5 c6 f0 f1 f2 f3 f4 f5 f6
    have hs1 : w.heap.size ≤ w1.heap.size := HK1.out.size
    obtain ⟨c0, c1, c2, c3, c4, c5, c6, f0, f1, f2, f3, f4, f5, f6⟩ := blk7 HG1.out
    have lg := hp_lt HG1.out
    have HU : Aside0 (Calls Tryd.prog 73 #[.slice none 0 0, .int .u64 (Go.bits .or .u64 9223372036854775808 (shl .u64 (frf N : Int) 11))] w1.drew (SetPostW w1.drew (fun _ => False) [(mw N : Int)])) := ⟨by rw [mw_shl]; exact setUx_c (mw N) (by have := mw_b N; omega) (mw_b N).2 w1.drew⟩
    refine start_ (n := 13) (S := fun w' => w'.cell? ⟨g, 5, none⟩ = some (.slice none 0 0)) (ds := [12]) #[false, false, false, false, false, false, false, false, false, false, false, false, false] (by kernel_rfl) rfl rfl ((by go_simp)) (fun hHeld => ?_)
    refine pure_ (i := 0) (N := some 47) (v := ?_) (a' := ?_) #[true, false, false, false, false, false, false, false, false, false, false, false, false] rfl rfl (by kernel_rfl) (fun _ _ _ h => h) (Or.inl ⟨by rfl, ?_⟩) ?_ ?_
    rotate_left
    · intro w'
      go_simp
      with_reducible rfl
    rotate_left
    · simp only [Act.put, List.setIfInBounds_toArray, List.set_cons_zero, List.set_cons_succ, i64_w, i32_w]
      rfl
    refine pure_ (i := 1) (N := some 48) (v := ?_) (a' := ?_) #[true, true, false, false, false, false, false, false, false, false, false, false, false] rfl rfl (by kernel_rfl) (fun _ _ _ h => h) (Or.inl ⟨by rfl, ?_⟩) ?_ ?_
    rotate_left
    · intro w'
      go_simp
      with_reducible rfl
    rotate_left
    · simp only [Act.put, List.setIfInBounds_toArray, List.set_cons_zero, List.set_cons_succ, i64_w, i32_w]
      rfl
    refine pure_ (i := 2) (N := some 49) (v := ?_) (a' := ?_) #[true, true, true, false, false, false, false, false, false, false, false, false, false] rfl rfl (by kernel_rfl) (fun _ _ _ h => h) (Or.inl ⟨by rfl, ?_⟩) ?_ ?_
    rotate_left
    · intro w'
      go_simp
      with_reducible rfl
    rotate_left
    · simp only [Act.put, List.setIfInBounds_toArray, List.set_cons_zero, List.set_cons_succ, i64_w, i32_w]
      rfl
    refine pure_ (i := 3) (N := some 50) (v := ?_) (a' := ?_) #[true, true, true, true, false, false, false, false, false, false, false, false, false] rfl rfl (by kernel_rfl) (fun _ _ _ h => h) (Or.inl ⟨by rfl, ?_⟩) ?_ ?_
    rotate_left
    · intro w'
      go_simp
      with_reducible rfl
    rotate_left
    · simp only [Act.put, List.setIfInBounds_toArray, List.set_cons_zero, List.set_cons_succ, i64_w, i32_w]
      rfl
    refine pure_ (i := 5) (N := some 52) (v := ?_) (a' := ?_) #[true, true, true, true, false, true, false, false, false, false, false, false, false] rfl rfl (by kernel_rfl) (fun _ _ _ h => h) (Or.inl ⟨by rfl, ?_⟩) ?_ ?_
    rotate_left
    · intro w'
      go_simp
      with_reducible rfl
    rotate_left
    · simp only [Act.put, List.setIfInBounds_toArray, List.set_cons_zero, List.set_cons_succ, i64_w, i32_w]
      rfl
    refine take_ (i := 4) (N := some 51) (v := ?_) (a' := ?_) #[true, true, true, true, true, true, false, false, false, false, false, false, false] rfl rfl (by kernel_rfl) (fun _ _ _ h => h) (Or.inl ⟨by rfl, ?_⟩) hHeld ?_ ?_
    rotate_left
    · intro w' s0
      go_simp
      with_reducible rfl
    rotate_left
    · simp only [Act.put, List.setIfInBounds_toArray, List.set_cons_zero, List.set_cons_succ, i64_w, i32_w]
      rfl
    refine one_ (i := 6) (N := some 53) #[true, true, true, true, true, true, true, false, false, false, false, false, false] rfl rfl (by kernel_rfl) (by decide) (fun K hK => ?_)
    refine value_ (w1 := ?_) (v := ?_) (by rfl) rfl ?_ ?_
    rotate_left 2
    · go_simp
      constructor
      · rfl
      · rfl
    refine hK.out _ _ ((by go_simp)) (fun hHeld => ?_)
    clear hK K
    refine norm_ (a' := ?_) ?_ ?_
    rotate_left
    · show Act.put _ (some 53) _ = _
      simp only [Act.put, List.setIfInBounds_toArray, List.set_cons_zero, List.set_cons_succ, i64_w, i32_w]
      rfl
    refine pure_ (i := 7) (N := some 54) (v := ?_) (a' := ?_) #[true, true, true, true, true, true, true, true, false, false, false, false, false] rfl rfl (by kernel_rfl) (fun _ _ _ h => h) (Or.inl ⟨by rfl, ?_⟩) ?_ ?_
    rotate_left
    · intro w'
      go_simp
      with_reducible rfl
    rotate_left
    · simp only [Act.put, List.setIfInBounds_toArray, List.set_cons_zero, List.set_cons_succ, i64_w, i32_w]
      rfl
    refine pure_ (i := 8) (N := some 55) (v := ?_) (a' := ?_) #[true, true, true, true, true, true, true, true, true, false, false, false, false] rfl rfl (by kernel_rfl) (fun _ _ _ h => h) (Or.inl ⟨by rfl, ?_⟩) ?_ ?_
    rotate_left
    · intro w'
      go_simp
      with_reducible rfl
    rotate_left
    · simp only [Act.put, List.setIfInBounds_toArray, List.set_cons_zero, List.set_cons_succ, i64_w, i32_w]
      rfl
    refine one_ (i := 9) (N := some 56) #[true, true, true, true, true, true, true, true, true, true, false, false, false] rfl rfl (by kernel_rfl) (by decide) (fun K hK => ?_)
    refine goes_ Tryd.func73 (by kernel_rfl) rfl #[.slice none 0 0, .int .u64 (Go.bits .or .u64 9223372036854775808 (shl .u64 (frf N : Int) 11))] (by rfl) rfl rfl (by simp only [List.map_toArray, List.map_cons, List.map_nil]; rfl) ?_
    with_reducible refine (HU.out).mono ?_
    rintro e w2 ⟨mb, R, c, rfl, hc, hmax, hmb, hm, hok, hk⟩
    refine ⟨_, rfl, ?_⟩
    have hmb2 : mb = w1.heap.size := by rcases hmb with h | h; exact h.elim; exact h
    have hz2 := hp_kept (show hp w1.drew g = _ from HG1.out) hk (fun h => h)
    have e5 := (blk7 hz2).2.2.2.2.2.1
    have g5 : w2.frozen? ⟨g, 5, none⟩ = false := blk_frozen hz2 5
    refine hK.out _ _ (e5) (fun hHeld => ?_)
    clear hK K
    refine norm_ (a' := ?_) ?_ ?_
    rotate_left
    · show Act.put _ (some 56) _ = _
      simp only [Act.put, List.setIfInBounds_toArray, List.set_cons_zero, List.set_cons_succ, i64_w, i32_w]
      rfl
    refine pure_ (i := 10) (N := some 57) (v := ?_) (a' := ?_) #[true, true, true, true, true, true, true, true, true, true, true, false, false] rfl rfl (by kernel_rfl) (fun _ _ _ h => h) (Or.inl ⟨by rfl, ?_⟩) ?_ ?_
    rotate_left
    · intro w'
      go_simp
      with_reducible rfl
    rotate_left
    · simp only [Act.put, List.setIfInBounds_toArray, List.set_cons_zero, List.set_cons_succ, i64_w, i32_w]
      rfl
    refine pure_ (i := 11) (N := some 58) (v := ?_) (a' := ?_) #[true, true, true, true, true, true, true, true, true, true, true, true, false] rfl rfl (by kernel_rfl) (fun _ _ _ h => h) (Or.inl ⟨by rfl, ?_⟩) ?_ ?_
    rotate_left
    · intro w'
      go_simp
      with_reducible rfl
    rotate_left
    · simp only [Act.put, List.setIfInBounds_toArray, List.set_cons_zero, List.set_cons_succ, i64_w, i32_w]
      rfl
    refine last_ (i := 12) (N := none) #[true, true, true, true, true, true, true, true, true, true, true, true, true] rfl rfl (by kernel_rfl) (by decide) (fun K hK => ?_)
    refine skip_ (w1 := ?_) (by rfl) rfl ?_ ?_
    rotate_left
    · go_simp
      rfl
    refine hK.out _ _ ?_
    clear hK K
    refine done_ (by kernel_rfl) ?_
    have hgm : g ≠ mb := by omega
    obtain ⟨b0, b1, b2, b3, b4, b5, b6, g0, g1, g2, g3, g4, _, g6⟩ := blk7 hz2
    have lg2 := hp_lt hz2
    have HF3 : Aside0 (Flt ((w2.setCell ⟨g, 5, none⟩ (.slice (some ⟨mb, 0, none⟩) 1 c)).setCell ⟨g, 6, none⟩ (.int .i32 (fre N))) g mb p m 0 1 (sg N) 1 c (fre N) ([(mw N : Int)] ++ R)) := ⟨⟨by rw [hp_here _ _ _ _ _ rfl, hp_here _ _ _ _ _ rfl, hz2]; rfl, by rw [hp_other _ _ _ _ hgm, hp_other _ _ _ _ hgm]; exact hm, hgm, hok, by simp, by rw [← hc]; simp, by rw [hc]; exact hmax⟩⟩
    have HK3 : Aside0 (Kept (On g) w ((w2.setCell ⟨g, 5, none⟩ (.slice (some ⟨mb, 0, none⟩) 1 c)).setCell ⟨g, 6, none⟩ (.int .i32 (fre N)))) := ⟨((HK1.out.drew.trans hk (fun _ _ h => h.elim)).setCell (p := ⟨g, 5, none⟩) (.inl rfl) _).setCell (p := ⟨g, 6, none⟩) (.inl rfl) _⟩
    have HC := Aside0.mk hc
    have HMB := Aside0.mk (show w.heap.size ≤ mb by omega)
    rw [← hmb2]
    clear hc hmax hmb hm hok hk hmb2 hz2 HG1 HK1 HU hHeld e5 c0 c1 c2 c3 c4 c5 c6 f0 f1 f2 f3 f4 f5 f6
    go_wp2_with (fail)
    obtain ⟨w3, hw3⟩ : ∃ w3, w3 = ((w2.setCell ⟨g, 5, none⟩ (.slice (some ⟨mb, 0, none⟩) 1 c)).setCell ⟨g, 6, none⟩ (.int .i32 (fre N))) := ⟨_, rfl⟩
    rw [← hw3] at HF3 HK3 ⊢
    clear hw3 b0 b1 b2 b3 b4 b5 b6 g0 g1 g2 g3 g4 g5 g6
    refine (round_c g mb p m 0 (sg N) c (fre N) [(mw N : Int)] R false 0 w3 HF3.out (by omega) hm' (by omega) (by simp) (by simp) rfl).mono ?_
    rintro e w4 hr
    have hr0 := hr
    obtain ⟨rfl, _⟩ := hr0
    have HR := Aside0.mk hr
    clear hr
    go_wp2_with (fail)
    go_ret
    exact ⟨rfl, mb, R, c, w3, HMB.out, HC.out, HF3.out, HK3.out, .inr ⟨by omega, HR.out⟩⟩
  · have hd : decide ((p : Int) < 53) = false := decide_eq_false (by omega)
    go_enter Tryd.func45, Tryd.ntmps45
    go_upto_region 15 with (first | (go_at_call 71; refine (HN.out _).mono ?_; rintro e w' ⟨rfl, rfl⟩) | (go_at_call 66; refine (HA.out _).mono ?_; rintro e w' ⟨rfl, rfl⟩) | (go_at_call 70; refine (HS.out _).mono ?_; rintro e w' ⟨rfl, rfl⟩) | (go_at_call 72; refine (HX.out _).mono ?_; rintro e w' ⟨rfl, rfl⟩))
    obtain ⟨w1, hw1⟩ : ∃ w1, w1 = ((w.setCell ⟨g, 2, none⟩ (.int .i8 0)).setCell ⟨g, 4, none⟩ (.bool (sg N))).setCell ⟨g, 3, none⟩ (.int .u8 1) := ⟨_, rfl⟩
    have HK1 : Aside0 (Kept (On g) w w1) := ⟨by rw [hw1]; exact (((Kept.refl (On g) w).setCell (p := ⟨g, 2, none⟩) (.inl rfl) _).setCell (p := ⟨g, 4, none⟩) (.inl rfl) _).setCell (p := ⟨g, 3, none⟩) (.inl rfl) _⟩
    have HG1 : Aside0 (hp w1 g = some (.cells #[.int .u32 p, .int .u8 m, .int .i8 0, .int .u8 1, .bool (sg N), .slice none 0 0, .int .i32 0] 91 (0, 0))) := ⟨by rw [hw1, hp_here _ _ _ _ _ rfl, hp_here _ _ _ _ _ rfl, hp_here _ _ _ _ _ rfl, H.out]; rfl⟩
    rw [← hw1]
    clear hw1 c0 c1 c2 c3 c4 c5 c6 f0 f1 f2 f3 f4 f5 f6
    have hs1 : w.heap.size ≤ w1.heap.size := HK1.out.size
    obtain ⟨c0, c1, c2, c3, c4, c5, c6, f0, f1, f2, f3, f4, f5, f6⟩ := blk7 HG1.out
    have lg := hp_lt HG1.out
    have HU : Aside0 (Calls Tryd.prog 73 #[.slice none 0 0, .int .u64 (Go.bits .or .u64 9223372036854775808 (shl .u64 (frf N : Int) 11))] w1.drew (SetPostW w1.drew (fun _ => False) [(mw N : Int)])) := ⟨by rw [mw_shl]; exact setUx_c (mw N) (by have := mw_b N; omega) (mw_b N).2 w1.drew⟩
    refine start_ (n := 13) (S := fun w' => w'.cell? ⟨g, 5, none⟩ = some (.slice none 0 0)) (ds := [12]) #[false, false, false, false, false, false, false, false, false, false, false, false, false] (by kernel_rfl) rfl rfl ((by go_simp)) (fun hHeld => ?_)
    refine pure_ (i := 0) (N := some 47) (v := ?_) (a' := ?_) #[true, false, false, false, false, false, false, false, false, false, false, false, false] rfl rfl (by kernel_rfl) (fun _ _ _ h => h) (Or.inl ⟨by rfl, ?_⟩) ?_ ?_
    rotate_left
    · intro w'
      go_simp
      with_reducible rfl
    rotate_left
    · simp only [Act.put, List.setIfInBounds_toArray, List.set_cons_zero, List.set_cons_succ, i64_w, i32_w]
      rfl
    refine pure_ (i := 1) (N := some 48) (v := ?_) (a' := ?_) #[true, true, false, false, false, false, false, false, false, false, false, false, false] rfl rfl (by kernel_rfl) (fun _ _ _ h => h) (Or.inl ⟨by rfl, ?_⟩) ?_ ?_
    rotate_left
    · intro w'
      go_simp
      with_reducible rfl
    rotate_left
    · simp only [Act.put, List.setIfInBounds_toArray, List.set_cons_zero, List.set_cons_succ, i64_w, i32_w]
      rfl
    refine pure_ (i := 2) (N := some 49) (v := ?_) (a' := ?_) #[true, true, true, false, false, false, false, false, false, false, false, false, false] rfl rfl (by kernel_rfl) (fun _ _ _ h => h) (Or.inl ⟨by rfl, ?_⟩) ?_ ?_
    rotate_left
    · intro w'
      go_simp
      with_reducible rfl
    rotate_left
    · simp only [Act.put, List.setIfInBounds_toArray, List.set_cons_zero, List.set_cons_succ, i64_w, i32_w]
      rfl
    refine pure_ (i := 3) (N := some 50) (v := ?_) (a' := ?_) #[true, true, true, true, false, false, false, false, false, false, false, false, false] rfl rfl (by kernel_rfl) (fun _ _ _ h => h) (Or.inl ⟨by rfl, ?_⟩) ?_ ?_
    rotate_left
    · intro w'
      go_simp
      with_reducible rfl
    rotate_left
    · simp only [Act.put, List.setIfInBounds_toArray, List.set_cons_zero, List.set_cons_succ, i64_w, i32_w]
      rfl
    refine pure_ (i := 5) (N := some 52) (v := ?_) (a' := ?_) #[true, true, true, true, false, true, false, false, false, false, false, false, false] rfl rfl (by kernel_rfl) (fun _ _ _ h => h) (Or.inl ⟨by rfl, ?_⟩) ?_ ?_
    rotate_left
    · intro w'
      go_simp
      with_reducible rfl
    rotate_left
    · simp only [Act.put, List.setIfInBounds_toArray, List.set_cons_zero, List.set_cons_succ, i64_w, i32_w]
      rfl
    refine take_ (i := 4) (N := some 51) (v := ?_) (a' := ?_) #[true, true, true, true, true, true, false, false, false, false, false, false, false] rfl rfl (by kernel_rfl) (fun _ _ _ h => h) (Or.inl ⟨by rfl, ?_⟩) hHeld ?_ ?_
    rotate_left
    · intro w' s0
      go_simp
      with_reducible rfl
    rotate_left
    · simp only [Act.put, List.setIfInBounds_toArray, List.set_cons_zero, List.set_cons_succ, i64_w, i32_w]
      rfl
    refine one_ (i := 6) (N := some 53) #[true, true, true, true, true, true, true, false, false, false, false, false, false] rfl rfl (by kernel_rfl) (by decide) (fun K hK => ?_)
    refine value_ (w1 := ?_) (v := ?_) (by rfl) rfl ?_ ?_
    rotate_left 2
    · go_simp
      constructor
      · rfl
      · rfl
    refine hK.out _ _ ((by go_simp)) (fun hHeld => ?_)
    clear hK K
    refine norm_ (a' := ?_) ?_ ?_
    rotate_left
    · show Act.put _ (some 53) _ = _
      simp only [Act.put, List.setIfInBounds_toArray, List.set_cons_zero, List.set_cons_succ, i64_w, i32_w]
      rfl
    refine pure_ (i := 7) (N := some 54) (v := ?_) (a' := ?_) #[true, true, true, true, true, true, true, true, false, false, false, false, false] rfl rfl (by kernel_rfl) (fun _ _ _ h => h) (Or.inl ⟨by rfl, ?_⟩) ?_ ?_
    rotate_left
    · intro w'
      go_simp
      with_reducible rfl
    rotate_left
    · simp only [Act.put, List.setIfInBounds_toArray, List.set_cons_zero, List.set_cons_succ, i64_w, i32_w]
      rfl
    refine pure_ (i := 8) (N := some 55) (v := ?_) (a' := ?_) #[true, true, true, true, true, true, true, true, true, false, false, false, false] rfl rfl (by kernel_rfl) (fun _ _ _ h => h) (Or.inl ⟨by rfl, ?_⟩) ?_ ?_
    rotate_left
    · intro w'
      go_simp
      with_reducible rfl
    rotate_left
    · simp only [Act.put, List.setIfInBounds_toArray, List.set_cons_zero, List.set_cons_succ, i64_w, i32_w]
      rfl
    refine one_ (i := 9) (N := some 56) #[true, true, true, true, true, true, true, true, true, true, false, false, false] rfl rfl (by kernel_rfl) (by decide) (fun K hK => ?_)
    refine goes_ Tryd.func73 (by kernel_rfl) rfl #[.slice none 0 0, .int .u64 (Go.bits .or .u64 9223372036854775808 (shl .u64 (frf N : Int) 11))] (by rfl) rfl rfl (by simp only [List.map_toArray, List.map_cons, List.map_nil]; rfl) ?_
    with_reducible refine (HU.out).mono ?_
    rintro e w2 ⟨mb, R, c, rfl, hc, hmax, hmb, hm, hok, hk⟩
    refine ⟨_, rfl, ?_⟩
    have hmb2 : mb = w1.heap.size := by rcases hmb with h | h; exact h.elim; exact h
    have hz2 := hp_kept (show hp w1.drew g = _ from HG1.out) hk (fun h => h)
    have e5 := (blk7 hz2).2.2.2.2.2.1
    have g5 : w2.frozen? ⟨g, 5, none⟩ = false := blk_frozen hz2 5
    refine hK.out _ _ (e5) (fun hHeld => ?_)
    clear hK K
    refine norm_ (a' := ?_) ?_ ?_
    rotate_left
    · show Act.put _ (some 56) _ = _
      simp only [Act.put, List.setIfInBounds_toArray, List.set_cons_zero, List.set_cons_succ, i64_w, i32_w]
      rfl
    refine pure_ (i := 10) (N := some 57) (v := ?_) (a' := ?_) #[true, true, true, true, true, true, true, true, true, true, true, false, false] rfl rfl (by kernel_rfl) (fun _ _ _ h => h) (Or.inl ⟨by rfl, ?_⟩) ?_ ?_
    rotate_left
    · intro w'
      go_simp
      with_reducible rfl
    rotate_left
    · simp only [Act.put, List.setIfInBounds_toArray, List.set_cons_zero, List.set_cons_succ, i64_w, i32_w]
      rfl
    refine pure_ (i := 11) (N := some 58) (v := ?_) (a' := ?_) #[true, true, true, true, true, true, true, true, true, true, true, true, false] rfl rfl (by kernel_rfl) (fun _ _ _ h => h) (Or.inl ⟨by rfl, ?_⟩) ?_ ?_
    rotate_left
    · intro w'
      go_simp
      with_reducible rfl
    rotate_left
    · simp only [Act.put, List.setIfInBounds_toArray, List.set_cons_zero, List.set_cons_succ, i64_w, i32_w]
      rfl
    refine last_ (i := 12) (N := none) #[true, true, true, true, true, true, true, true, true, true, true, true, true] rfl rfl (by kernel_rfl) (by decide) (fun K hK => ?_)
    refine skip_ (w1 := ?_) (by rfl) rfl ?_ ?_
    rotate_left
    · go_simp
      rfl
    refine hK.out _ _ ?_
    clear hK K
    refine done_ (by kernel_rfl) ?_
    have hgm : g ≠ mb := by omega
    obtain ⟨b0, b1, b2, b3, b4, b5, b6, g0, g1, g2, g3, g4, _, g6⟩ := blk7 hz2
    have lg2 := hp_lt hz2
    have HF3 : Aside0 (Flt ((w2.setCell ⟨g, 5, none⟩ (.slice (some ⟨mb, 0, none⟩) 1 c)).setCell ⟨g, 6, none⟩ (.int .i32 (fre N))) g mb p m 0 1 (sg N) 1 c (fre N) ([(mw N : Int)] ++ R)) := ⟨⟨by rw [hp_here _ _ _ _ _ rfl, hp_here _ _ _ _ _ rfl, hz2]; rfl, by rw [hp_other _ _ _ _ hgm, hp_other _ _ _ _ hgm]; exact hm, hgm, hok, by simp, by rw [← hc]; simp, by rw [hc]; exact hmax⟩⟩
    have HK3 : Aside0 (Kept (On g) w ((w2.setCell ⟨g, 5, none⟩ (.slice (some ⟨mb, 0, none⟩) 1 c)).setCell ⟨g, 6, none⟩ (.int .i32 (fre N)))) := ⟨((HK1.out.drew.trans hk (fun _ _ h => h.elim)).setCell (p := ⟨g, 5, none⟩) (.inl rfl) _).setCell (p := ⟨g, 6, none⟩) (.inl rfl) _⟩
    have HC := Aside0.mk hc
    have HMB := Aside0.mk (show w.heap.size ≤ mb by omega)
    rw [← hmb2]
    clear hc hmax hmb hm hok hk hmb2 hz2 HG1 HK1 HU hHeld e5 c0 c1 c2 c3 c4 c5 c6 f0 f1 f2 f3 f4 f5 f6
    go_wp2_with (fail)
    go_ret
    exact ⟨rfl, mb, R, c, _, HMB.out, HC.out, HF3.out, HK3.out, .inl ⟨by omega, rfl⟩⟩
end Go.Proofs.YtglikgjaobedbaaDoor.Sp
