/-
  CONTRACT of roundShortest.
-/
import Derived.Test.YtfnknldbjckgoaaGreatDoorZAppD
import Derived.Test.YtfnknldbjckgoaaGreatDoorZGshs
namespace Go.Proofs.YtfnknldbjckgoaaGreatDoor.Sp
open Go.RowKit Go.Proofs.YtfnknldbjckgoaaGreatDoorW.PrintWords Go.Proofs.YtfnknldbjckgoaaGreatDoorW.PrintLast Go.Proofs.YtfnknldbjckgoaaGreatDoorW.PrintMore Go.Proofs.YtfnknldbjckgoaaGreatDoor.Dig
set_option linter.unusedVariables false
set_option linter.unusedSimpArgs false
/-- The plain facts of roundShortest: M the mantissa with one bit more than the precision, E its exponent. -/
structure RPre (M : Nat) (E : Int) (p : Nat) : Prop where
  gt : 1 < M
  lt : M < 2 ^ (p + 1)
  lo : Fit (initM (M - 1) E).1
  up : Fit (initM (M + 1) E).1
  fit : Fit (M + 1)
theorem fit_shift {N n : Nat} {E : Int} (h : N < 2 ^ n) (h1 : n ≤ 300) (h2 : (n : Int) + E ≤ 512) : Fit (initM N E).1 := by
  unfold initM
  split
  · exact fit_of (Nat.lt_of_le_of_lt (Nat.div_le_self _ _) h) (by omega)
  · have h3 := Nat.mul_lt_mul_of_pos_right h (Nat.two_pow_pos E.toNat)
    rw [← Nat.pow_add] at h3
    exact fit_of h3 (by omega)
theorem rpre {vN b p : Nat} {x : Int} (hv0 : 0 < vN) (hbits : Bits (vN : Int) b) (hbp : b ≤ p) (hp : p ≤ 200) (hx : -300 ≤ x ∧ x ≤ 300) : RPre (vN * 2 ^ (p + 1 - b)) ((b : Int) + x - ((p : Int) + 1)) p := by
  have hvb : vN < 2 ^ b := Int.ofNat_lt.1 (by rw [Int.natCast_pow]; exact hbits.2.1)
  have hM : vN * 2 ^ (p + 1 - b) < 2 ^ (p + 1) := by
    have h1 := Nat.mul_lt_mul_of_pos_right hvb (Nat.two_pow_pos (p + 1 - b))
    rw [← Nat.pow_add, Nat.add_sub_cancel' (by omega)] at h1
    exact h1
  have hg : 1 < vN * 2 ^ (p + 1 - b) := by
    have h1 : 2 ^ 1 ≤ 2 ^ (p + 1 - b) := Nat.pow_le_pow_right (by omega) (by omega)
    have h2 : 1 * 2 ^ (p + 1 - b) ≤ vN * 2 ^ (p + 1 - b) := Nat.mul_le_mul_right _ hv0
    omega
  refine ⟨hg, hM, fit_shift (n := p + 1) (by omega) (by omega) (by omega), fit_shift (n := p + 2) ?_ (by omega) (by omega), fit_of (p := p + 2) ?_ (by omega)⟩
  · rw [show p + 2 = (p + 1) + 1 by omega, Nat.pow_succ]
    omega
  · rw [show p + 2 = (p + 1) + 1 by omega, Nat.pow_succ]
    omega
theorem and2 (n : Nat) (hn : n < 18446744073709551616) : (Go.bits .and .u64 (n : Int) 2 == 0) = decide (n % 4 < 2) := by
  have h := u64_and_nat n 2 hn (by omega)
  have h2 : Go.bits .and .u64 (n : Int) 2 = ((n &&& 2 : Nat) : Int) := h
  rw [h2]
  have h3 : n &&& 2 = (n % 4) &&& 2 := by
    have h4 := Nat.and_two_pow_sub_one_eq_mod n 2
    rw [show (4 : Nat) = 2 ^ 2 from rfl, ← h4, Nat.and_assoc]
    rfl
  rw [h3]
  obtain ⟨r, hr⟩ : ∃ r, r = n % 4 := ⟨_, rfl⟩
  rw [← hr]
  have hr4 : r < 4 := by omega
  match r, hr4 with
  | 0, _ => decide
  | 1, _ => decide
  | 2, _ => decide
  | 3, _ => decide
theorem lt_lim {N n : Nat} (h : N < 2 ^ n) (hn : n ≤ 300) : (N : Int) < Lim := lt_Lim n (by rw [show ((2 : Int) ^ n) = ((2 ^ n : Nat) : Int) by simp]; exact Int.ofNat_lt.2 h) (by omega)
set_option maxHeartbeats 12800000 in
set_option maxRecDepth 100000 in
theorem roundShort_c (g p vN b bb g1 : Nat) (m x : Int) (neg : Bool) (w0 W0 w : World) (R1 : List Value) (h : Own w0 W0 g p m neg (vN : Int) x b) (hv0 : 0 < vN) (hbits : Bits (vN : Int) b) (hbp : b ≤ p) (hp : p ≤ 200) (hx : -300 ≤ x ∧ x ≤ 300) (hL : Leaf W0) (hTb : Tb W0) (hW : Below W0.heap.size W0 w) (hbb : W0.heap.size ≤ bb) (hd : DX w bb g1 (initD vN x).1 R1 (initD vN x).2) :
    Calls Tryz.prog 53 #[.pointer (some ⟨bb, 0, none⟩), .pointer (some ⟨g, 0, none⟩)] w (DxPost w bb g1 (shortV vN b p x)) := by
  obtain ⟨mb, L, R, c, hF, hC, hev, h64, hb64⟩ := h.flt
  have hlc := hF.lec
  have hl0 : 0 < L.length := hC.pos
  have hl9 : L.length ≤ 4 := by omega
  have hR := rpre hv0 hbits hbp hp hx
  have hms := mantS_eq vN b (64 * L.length) p hbp hb64
  obtain ⟨N0, hN0⟩ : ∃ N0, N0 = vN * 2 ^ (64 * L.length - b) := ⟨_, rfl⟩
  rw [← hN0] at hms
  have hevN : ev BW L = (N0 : Int) := by rw [hev, hN0, Int.natCast_mul, Int.natCast_pow]; rfl
  obtain ⟨M, hM⟩ : ∃ M, M = vN * 2 ^ (p + 1 - b) := ⟨_, rfl⟩
  rw [← hM] at hms hR
  have HMS := Aside0.mk hms
  have HR := Aside0.mk hR
  have HEV := Aside0.mk hevN
  have HN0 : Aside0 (0 < N0) := ⟨by rw [hN0]; exact Nat.mul_pos hv0 (Nat.two_pow_pos _)⟩
  have HBI : Aside0 (Bits (ev BW L) (64 * L.length)) := ⟨bits_top hC⟩
  have HTOP : Aside0 (Canon p L) := ⟨hC⟩
  have HFA : Aside0 (∀ W, Below w.heap.size w W → Flt W g mb p m 0 1 neg L.length c ((b : Int) + x) (L ++ R)) := ⟨fun W h1 => (hF.below hW).below h1⟩
  have HLA : Aside0 (∀ W, Below w.heap.size w W → Leaf W) := ⟨fun W h1 => (hL.below hW).below h1⟩
  have HTA : Aside0 (∀ W, Below w.heap.size w W → Tb W) := ⟨fun W h1 => (hTb.kept (Kept.of_below (S := fun _ => False) hW) (fun h => h)).kept (Kept.of_below (S := fun _ => False) h1) (fun h => h)⟩
  have HDX := Aside0.mk hd
  obtain ⟨B, hB⟩ : ∃ B, B = 64 * L.length := ⟨_, rfl⟩
  rw [← hB] at HBI HMS
  obtain ⟨Xe, hXe⟩ : ∃ Xe : Int, Xe = (b : Int) + x := ⟨_, rfl⟩
  rw [← hXe] at HFA HR
  obtain ⟨E2, hE2⟩ : ∃ E2 : Int, E2 = Xe - ((p : Int) + 1) := ⟨_, rfl⟩
  rw [← hE2] at HR
  obtain ⟨sI, hsI⟩ : ∃ sI : Int, sI = (B : Int) - ((p : Int) + 1) := ⟨_, rfl⟩
  obtain ⟨d, hdd⟩ : ∃ d, d = initD vN x := ⟨_, rfl⟩
  have hdc : DBd d := by rw [hdd]; exact (dpre hev hv0 hbits hbp hp hb64 h64 hx).elim fun _ h => h.elim fun _ h => h.2.bd.1
  have HDB := Aside0.mk hdc
  rw [← hdd] at HDX
  obtain ⟨lo, hlo⟩ : ∃ lo, lo = initD (M - 1) E2 := ⟨_, rfl⟩
  obtain ⟨up, hup⟩ : ∃ up, up = initD (M + 1) E2 := ⟨_, rfl⟩
  obtain ⟨inc, hinc⟩ : ∃ inc : Bool, inc = decide (M % 4 < 2) := ⟨_, rfl⟩
  obtain ⟨RES, hRES⟩ : ∃ RES, RES = shortV vN b p x := ⟨_, rfl⟩
  have HRES : Aside0 (RES = rsS inc lo.1 up.1 d 0 d.1) := ⟨by
    rw [hRES, hinc, hlo, hup, hdd]
    unfold shortV
    rw [← hM, show x + (b : Int) - ((p : Int) + 1) = E2 by rw [hE2, hXe]; omega]⟩
  rw [← hRES]
  have HLO := Aside0.mk hlo
  have HUP := Aside0.mk hup
  have HINC := Aside0.mk hinc
  have hd0 : 0 < d.1.length := hdc.dc.pos
  have hd8 : d.1.length ≤ 8000 := hdc.len
  have hdb0 : ((d.1.length : Int) == 0) = false := by rw [beq_eq_false_iff_ne]; omega
  have hXe9 : -300 ≤ Xe ∧ Xe ≤ 500 := by omega
  have hB9 : 0 < B ∧ B ≤ 256 := by omega
  have hXw : IntKind.i64.wrap Xe = Xe := IntWalk.i64_in _ (by omega)
  have hw1 : IntKind.i64.wrap (Xe - (B : Int)) = Xe - (B : Int) := IntWalk.i64_in _ (by omega)
  have hpw : IntKind.u32.wrap ((p : Int) + 1) = (p : Int) + 1 := by rw [IntKind.wrap_u32']; omega
  have hpw2 : IntKind.i64.wrap ((p : Int) + 1) = (p : Int) + 1 := IntWalk.i64_in _ (by omega)
  have hw2 : IntKind.i64.wrap ((B : Int) - ((p : Int) + 1)) = (B : Int) - ((p : Int) + 1) := IntWalk.i64_in _ (by omega)
  have hE2w : IntKind.i64.wrap E2 = E2 := IntWalk.i64_in _ (by omega)
  have HE29 : Aside0 (-3000 ≤ E2 ∧ E2 ≤ 1000) := ⟨by omega⟩
  have HBP := Aside0.mk (show B ≤ p + 1 + 63 ∧ p ≤ 200 ∧ B ≤ 256 from ⟨by omega, hp, by omega⟩)
  have HSI := Aside0.mk hsI
  have HES : Aside0 (Xe - (B : Int) + sI = E2) := ⟨by rw [hsI, hE2]; omega⟩
  have HNLIM : Aside0 ((N0 : Int) < Lim ∧ (M : Int) < Lim) := ⟨by rw [← hevN]; exact words_Lim hC.ok (by omega), lt_lim hR.lt (by omega)⟩
  have hgb : g ≠ bb := by
    have h1 := hd.str; have h2 := (hF.below hW).flt
    rintro rfl
    have h3 := h1.symm.trans h2
    injection h3 with h3
    injection h3 with _ h4
    exact absurd h4 (by decide)
  have hFw := HFA.out w (Below.refl _ _)
  obtain ⟨c0, c1, c2, c3, c4, c5, c6, f0, f1, f2, f3, f4, f5, f6⟩ := blk7 hFw.flt
  have lg := hp_lt hFw.flt
  obtain ⟨d0', d1', g0', g1'⟩ := blk2 HDX.out.str
  have lbb := hp_lt HDX.out.str
  have hrow : Kd.C (Kd.int .u64) w (some ⟨mb, 0, none⟩) L.length L := by
    have := hFw.C
    rw [List.take_left' rfl] at this
    exact this
  have HST := Aside0.mk (set_c (.slice none 0 0) (fun _ => False) ⟨mb, 0, none⟩ c L w (.inl rfl) hrow hC.ok hl0 (by omega) (fun h => h) (hp_lt hFw.mant))
  clear h hv0 hbits hbp hp hx hL hTb hW hbb hd hF hC hev h64 hb64 hR hms hN0 hevN hM hXe hdd hdc hlo hup hinc hRES hE2 hsI hrow hFw hgb hB
  go_enter Tryz.func53, Tryz.ntmps53
  go_upto_region 2 with (go_at_call 78; refine HST.out.mono ?_; rintro e w1 ⟨mq, Rq, cq, rfl, hcq, hcqm, hmq, hmqz, hokq, hk1⟩)
  have hmq2 : mq = w.heap.size := by rcases hmq with h | h; exact h.elim; exact h
  subst hmq2
  have HB1 := Aside0.mk (hk1.below (B := w.heap.size) (fun i h => h.elim) (Nat.le_refl _))
  have HNR1 : Aside0 (NR w1 (fun k => w.heap.size ≤ k) (.slice (some ⟨w.heap.size, 0, none⟩) L.length cq) (N0 : Int)) := ⟨.inr ⟨w.heap.size, L, Rq, by rw [hcq], hmqz, hokq, HTOP.out.cn, HEV.out, Nat.le_refl _, by omega⟩⟩
  have HROW : Aside0 (Kd.C (Kd.int .u64) w1 (some ⟨w.heap.size, 0, none⟩) L.length L) := ⟨row_C hmqz (by omega)⟩
  have HLQ : Aside0 (L.length ≤ cq) := ⟨by rw [← hcq, List.length_append]; omega⟩
  clear hcq hcqm hmq hmqz hokq hk1 c0 c1 c2 c3 c4 c5 c6 f0 f1 f2 f3 f4 f5 f6 lg HST d0' d1' g0' g1' lbb
  have HF1 := Aside0.mk (HFA.out w1 HB1.out)
  obtain ⟨c0, c1, c2, c3, c4, c5, c6, f0, f1, f2, f3, f4, f5, f6⟩ := blk7 HF1.out.flt
  have lg := hp_lt HF1.out.flt
  have HBL := Aside0.mk (bitLen_c (some ⟨w.heap.size, 0, none⟩) cq L B w1.drew ⟨HROW.out.1, HROW.out.2.1, HROW.out.2.2⟩ HLQ.out (by omega) HTOP.out.cn HBI.out)
  have HBL2 := Aside0.mk (bitLen_c (some ⟨w.heap.size, 0, none⟩) cq L B w1.drew.drew ⟨HROW.out.1, HROW.out.2.1, HROW.out.2.2⟩ HLQ.out (by omega) HTOP.out.cn HBI.out)
  refine start_ (n := 9) (S := fun w' => w'.cell? ⟨g, 6, none⟩ = some (.int .i32 Xe)) (ds := []) #[false, false, false, false, false, false, false, false, false] (by kernel_rfl) rfl rfl ((by go_simp)) (fun hHeld => ?_)
  refine pure_ (i := 0) (N := some 28) (v := ?_) (a' := ?_) #[true, false, false, false, false, false, false, false, false] rfl rfl (by kernel_rfl) (fun _ _ _ h => h) (Or.inl ⟨by rfl, ?_⟩) ?_ ?_
  rotate_left
  · intro w'
    go_simp
    with_reducible rfl
  rotate_left
  · simp only [Act.put, List.setIfInBounds_toArray, List.set_cons_zero, List.set_cons_succ, i64_w, i32_w]
    rfl
  refine pure_ (i := 1) (N := some 29) (v := ?_) (a' := ?_) #[true, true, false, false, false, false, false, false, false] rfl rfl (by kernel_rfl) (fun _ _ _ h => h) (Or.inl ⟨by rfl, ?_⟩) ?_ ?_
  rotate_left
  · intro w'
    go_simp
    with_reducible rfl
  rotate_left
  · simp only [Act.put, List.setIfInBounds_toArray, List.set_cons_zero, List.set_cons_succ, i64_w, i32_w]
    rfl
  refine pure_ (i := 2) (N := some 30) (v := ?_) (a' := ?_) #[true, true, true, false, false, false, false, false, false] rfl rfl (by kernel_rfl) (fun _ _ _ h => h) (Or.inl ⟨by rfl, ?_⟩) ?_ ?_
  rotate_left
  · intro w'
    go_simp
    with_reducible rfl
  rotate_left
  · simp only [Act.put, List.setIfInBounds_toArray, List.set_cons_zero, List.set_cons_succ, i64_w, i32_w]
    rfl
  refine pure_ (i := 5) (N := some 33) (v := ?_) (a' := ?_) #[true, true, true, false, false, true, false, false, false] rfl rfl (by kernel_rfl) (fun _ _ _ h => h) (Or.inl ⟨by rfl, ?_⟩) ?_ ?_
  rotate_left
  · intro w'
    go_simp
    with_reducible rfl
  rotate_left
  · simp only [Act.put, List.setIfInBounds_toArray, List.set_cons_zero, List.set_cons_succ, i64_w, i32_w]
    rfl
  refine take_ (i := 3) (N := some 31) (v := ?_) (a' := ?_) #[true, true, true, true, false, true, false, false, false] rfl rfl (by kernel_rfl) (fun _ _ _ h => h) (Or.inl ⟨by rfl, ?_⟩) hHeld ?_ ?_
  rotate_left
  · intro w' s0
    go_simp
    with_reducible rfl
  rotate_left
  · simp only [Act.put, List.setIfInBounds_toArray, List.set_cons_zero, List.set_cons_succ, i64_w, i32_w]
    rfl
  refine pure_ (i := 4) (N := some 32) (v := ?_) (a' := ?_) #[true, true, true, true, true, true, false, false, false] rfl rfl (by kernel_rfl) (fun _ _ _ h => h) (Or.inl ⟨by rfl, ?_⟩) ?_ ?_
  rotate_left
  · intro w'
    go_simp
    with_reducible rfl
  rotate_left
  · simp only [Act.put, List.setIfInBounds_toArray, List.set_cons_zero, List.set_cons_succ, i64_w, i32_w]
    rfl
  refine one_ (i := 6) (N := some 34) #[true, true, true, true, true, true, true, false, false] rfl rfl (by kernel_rfl) (by decide) (fun K hK => ?_)
  refine goes_ Tryz.func52 (by kernel_rfl) rfl #[.slice (some ⟨w.heap.size, 0, none⟩) L.length cq] (by rfl) rfl rfl (by simp only [List.map_toArray, List.map_cons, List.map_nil]; rfl) ?_
  with_reducible refine (HBL.out).mono ?_
  rintro e w2 ⟨rfl, rfl⟩
  refine ⟨_, rfl, ?_⟩
  have q0 := hHeld
  refine hK.out _ _ (q0) (fun hHeld => ?_)
  clear hK K
  refine norm_ (a' := ?_) ?_ ?_
  rotate_left
  · show Act.put _ (some 34) _ = _
    simp only [Act.put, List.setIfInBounds_toArray, List.set_cons_zero, List.set_cons_succ, i64_w, i32_w]
    rfl
  refine pure_ (i := 7) (N := some 35) (v := ?_) (a' := ?_) #[true, true, true, true, true, true, true, true, false] rfl rfl (by kernel_rfl) (fun _ _ _ h => h) (Or.inl ⟨by rfl, ?_⟩) ?_ ?_
  rotate_left
  · intro w'
    go_simp
    with_reducible rfl
  rotate_left
  · simp only [Act.put, List.setIfInBounds_toArray, List.set_cons_zero, List.set_cons_succ, i64_w, i32_w]
    rfl
  refine pure_ (i := 8) (N := some 5) (v := ?_) (a' := ?_) #[true, true, true, true, true, true, true, true, true] rfl rfl (by kernel_rfl) (fun _ _ _ h => h) (Or.inl ⟨by rfl, ?_⟩) ?_ ?_
  rotate_left
  · intro w'
    go_simp
    with_reducible rfl
  rotate_left
  · simp only [Act.put, List.setIfInBounds_toArray, List.set_cons_zero, List.set_cons_succ, i64_w, i32_w]
    rfl
  refine done_ (by kernel_rfl) ?_
  clear q0 hHeld HBL
  go_upto_region 3 with (fail)
  refine start_ (n := 10) (S := fun w' => w'.cell? ⟨g, 0, none⟩ = some (.int .u32 p)) (ds := []) #[false, false, false, false, false, false, false, false, false, false] (by kernel_rfl) rfl rfl ((by go_simp)) (fun hHeld => ?_)
  refine pure_ (i := 0) (N := some 36) (v := ?_) (a' := ?_) #[true, false, false, false, false, false, false, false, false, false] rfl rfl (by kernel_rfl) (fun _ _ _ h => h) (Or.inl ⟨by rfl, ?_⟩) ?_ ?_
  rotate_left
  · intro w'
    go_simp
    with_reducible rfl
  rotate_left
  · simp only [Act.put, List.setIfInBounds_toArray, List.set_cons_zero, List.set_cons_succ, i64_w, i32_w]
    rfl
  refine pure_ (i := 2) (N := some 38) (v := ?_) (a' := ?_) #[true, false, true, false, false, false, false, false, false, false] rfl rfl (by kernel_rfl) (fun _ _ _ h => h) (Or.inl ⟨by rfl, ?_⟩) ?_ ?_
  rotate_left
  · intro w'
    go_simp
    with_reducible rfl
  rotate_left
  · simp only [Act.put, List.setIfInBounds_toArray, List.set_cons_zero, List.set_cons_succ, i64_w, i32_w]
    rfl
  refine pure_ (i := 3) (N := some 39) (v := ?_) (a' := ?_) #[true, false, true, true, false, false, false, false, false, false] rfl rfl (by kernel_rfl) (fun _ _ _ h => h) (Or.inl ⟨by rfl, ?_⟩) ?_ ?_
  rotate_left
  · intro w'
    go_simp
    with_reducible rfl
  rotate_left
  · simp only [Act.put, List.setIfInBounds_toArray, List.set_cons_zero, List.set_cons_succ, i64_w, i32_w]
    rfl
  refine pure_ (i := 4) (N := some 40) (v := ?_) (a' := ?_) #[true, false, true, true, true, false, false, false, false, false] rfl rfl (by kernel_rfl) (fun _ _ _ h => h) (Or.inl ⟨by rfl, ?_⟩) ?_ ?_
  rotate_left
  · intro w'
    go_simp
    with_reducible rfl
  rotate_left
  · simp only [Act.put, List.setIfInBounds_toArray, List.set_cons_zero, List.set_cons_succ, i64_w, i32_w]
    rfl
  refine take_ (i := 5) (N := some 41) (v := ?_) (a' := ?_) #[true, false, true, true, true, true, false, false, false, false] rfl rfl (by kernel_rfl) (fun _ _ _ h => h) (Or.inl ⟨by rfl, ?_⟩) hHeld ?_ ?_
  rotate_left
  · intro w' s0
    go_simp
    with_reducible rfl
  rotate_left
  · simp only [Act.put, List.setIfInBounds_toArray, List.set_cons_zero, List.set_cons_succ, i64_w, i32_w]
    rfl
  refine pure_ (i := 6) (N := some 42) (v := ?_) (a' := ?_) #[true, false, true, true, true, true, true, false, false, false] rfl rfl (by kernel_rfl) (fun _ _ _ h => h) (Or.inl ⟨by rfl, ?_⟩) ?_ ?_
  rotate_left
  · intro w'
    go_simp
    with_reducible rfl
  rotate_left
  · simp only [Act.put, List.setIfInBounds_toArray, List.set_cons_zero, List.set_cons_succ, i64_w, i32_w]
    rfl
  refine pure_ (i := 7) (N := some 43) (v := ?_) (a' := ?_) #[true, false, true, true, true, true, true, true, false, false] rfl rfl (by kernel_rfl) (fun _ _ _ h => h) (Or.inl ⟨by rfl, ?_⟩) ?_ ?_
  rotate_left
  · intro w'
    go_simp
    with_reducible rfl
  rotate_left
  · simp only [Act.put, List.setIfInBounds_toArray, List.set_cons_zero, List.set_cons_succ, i64_w, i32_w]
    rfl
  refine one_ (i := 1) (N := some 37) #[true, true, true, true, true, true, true, true, false, false] rfl rfl (by kernel_rfl) (by decide) (fun K hK => ?_)
  refine goes_ Tryz.func52 (by kernel_rfl) rfl #[.slice (some ⟨w.heap.size, 0, none⟩) L.length cq] (by rfl) rfl rfl (by simp only [List.map_toArray, List.map_cons, List.map_nil]; rfl) ?_
  with_reducible refine (HBL2.out).mono ?_
  rintro e w2 ⟨rfl, rfl⟩
  refine ⟨_, rfl, ?_⟩
  have q0 := hHeld
  refine hK.out _ _ (q0) (fun hHeld => ?_)
  clear hK K
  refine norm_ (a' := ?_) ?_ ?_
  rotate_left
  · show Act.put _ (some 37) _ = _
    simp only [Act.put, List.setIfInBounds_toArray, List.set_cons_zero, List.set_cons_succ, i64_w, i32_w]
    rfl
  refine pure_ (i := 8) (N := some 44) (v := ?_) (a' := ?_) #[true, true, true, true, true, true, true, true, true, false] rfl rfl (by kernel_rfl) (fun _ _ _ h => h) (Or.inl ⟨by rfl, ?_⟩) ?_ ?_
  rotate_left
  · intro w'
    go_simp
    with_reducible rfl
  rotate_left
  · simp only [Act.put, List.setIfInBounds_toArray, List.set_cons_zero, List.set_cons_succ, i64_w, i32_w]
    rfl
  refine pure_ (i := 9) (N := some 6) (v := ?_) (a' := ?_) #[true, true, true, true, true, true, true, true, true, true] rfl rfl (by kernel_rfl) (fun _ _ _ h => h) (Or.inl ⟨by rfl, ?_⟩) ?_ ?_
  rotate_left
  · intro w'
    go_simp
    with_reducible rfl
  rotate_left
  · simp only [Act.put, List.setIfInBounds_toArray, List.set_cons_zero, List.set_cons_succ, i64_w, i32_w]
    rfl
  refine done_ (by kernel_rfl) ?_
  clear q0 hHeld HBL2 c0 c1 c2 c3 c4 c5 c6 f0 f1 f2 f3 f4 f5 f6 lg
  have HNR2 : Aside0 (NR w1.drew.drew (fun k => w.heap.size ≤ k) (.slice (some ⟨w.heap.size, 0, none⟩) L.length cq) (N0 : Int)) := ⟨HNR1.out⟩
  have HB2 : Aside0 (Below w.heap.size w w1.drew.drew) := ⟨⟨HB1.out.os, HB1.out.tape, HB1.out.output, HB1.out.size, HB1.out.block⟩⟩
  obtain ⟨w2, hw2'⟩ : ∃ w2, w2 = w1.drew.drew := ⟨_, rfl⟩
  rw [← hw2'] at HNR2 HB2 ⊢
  clear hw2' HNR1 HB1 HROW HF1
  rw [← HSI.out]
  obtain ⟨z, hz⟩ : ∃ z : Value, z = .slice (some ⟨w.heap.size, 0, none⟩) L.length cq := ⟨_, rfl⟩
  rw [← hz] at HNR2 ⊢
  clear hz
  go_upto_block 0 with (fail)
  go_cut [4] (fun v4 wx => Aside0 (NR wx (fun k => w.heap.size ≤ k) v4 (M : Int)) ∧ Aside0 (Below w.heap.size w wx))
  case first =>
    rcases Int.lt_trichotomy sI 0 with hlt | heq | hgt
    · as_aux_lemma =>
      obtain ⟨t, ht⟩ : ∃ t : Nat, t = (-sI).toNat := ⟨_, rfl⟩
      have hti : -sI = (t : Int) := by omega
      have htw : IntKind.i64.wrap (t : Int) = (t : Int) := IntWalk.i64_in _ (by have := HSI.out; have := HBP.out; omega)
      have htu : IntKind.u64.wrap (t : Int) = (t : Int) := by rw [IntKind.wrap_u64]; have := HSI.out; have := HBP.out; omega
      obtain ⟨L2, hr2, hc2, he2, hl2, hb2⟩ := HNR2.out.rd (S := fun k => w.heap.size ≤ k) (z := z) (by have := HN0.out; omega) (.inr rfl)
      have hL28 : L2.length ≤ 8 := Cn_len_le hc2 BW_gt 8 (by rw [he2, ← HEV.out]; exact Int.lt_of_lt_of_le (ev_lt HTOP.out.ok BW_pos) (pow_mono BW_pos (by omega)))
      have HSH := Aside0.mk (lsh_c z z (fun k => w.heap.size ≤ k) L2 t w2 HNR2.out.dst hr2 hl2 (by omega) (by omega) (by have := HSI.out; have := HBP.out; omega))
      rw [he2] at HSH
      have HME : Aside0 ((N0 : Int) * 2 ^ t = (M : Int)) := ⟨by
        have h := HMS.out
        unfold mantS at h
        rw [if_pos (by have := HSI.out; omega)] at h
        rw [← h, Int.natCast_mul, Int.natCast_pow, show p + 1 - B = t by have := HSI.out; omega]
        rfl⟩
      rw [HME.out] at HSH
      have hd1 : decide (sI < 0) = true := decide_eq_true hlt
      clear hr2 hc2 he2 hl2 hb2 ht
      go_wp2_with (go_at_call 67; refine HSH.out.mono ?_; rintro e w3 ⟨q, rfl, hn, hkk⟩; have HQ := Aside0.mk hn; have HKK := Aside0.mk hkk; clear hn hkk)
      go_meet
      case rel => exact ⟨⟨HQ.out.mono (fun i hi => by have := HB2.out.size; rcases hi with h | h <;> omega)⟩, ⟨HB2.out.trans (HKK.out.below (fun i h => h) HB2.out.size)⟩⟩
    · as_aux_lemma =>
      have HME : Aside0 (N0 = M) := ⟨by
        have h := HMS.out
        unfold mantS at h
        have h2 : B = p + 1 := by have := HSI.out; omega
        rw [if_neg (by omega), h2, Nat.sub_self, Nat.pow_zero, Nat.div_one] at h
        exact h⟩
      rw [HME.out] at HNR2
      have hd1 : decide (sI < 0) = false := decide_eq_false (by omega)
      have hd2 : decide (0 < sI) = false := decide_eq_false (by omega)
      go_wp2_with (fail)
      go_meet
      case rel => exact ⟨HNR2, HB2⟩
    · as_aux_lemma =>
      obtain ⟨t, ht⟩ : ∃ t : Nat, t = sI.toNat := ⟨_, rfl⟩
      have hti : sI = (t : Int) := by omega
      have HTI := Aside0.mk hti
      have HTB : Aside0 (t < 64) := ⟨by have := HSI.out; have := HBP.out; omega⟩
      have HSH := Aside0.mk (rshS_c z (fun k => w.heap.size ≤ k) (N0 : Int) t w2 HNR2.out (by have := HN0.out; omega) (by omega) HTB.out HNLIM.out.1)
      have HME : Aside0 ((N0 : Int) / 2 ^ t = (M : Int)) := ⟨by
        have h := HMS.out
        unfold mantS at h
        rw [if_neg (by have := HSI.out; omega)] at h
        rw [← h, show B - (p + 1) = t by have := HSI.out; omega]
        simp⟩
      rw [HME.out] at HSH
      subst hti
      have htu : IntKind.u64.wrap (t : Int) = (t : Int) := by rw [IntKind.wrap_u64]; have := HTB.out; omega
      have hd1 : decide ((t : Int) < 0) = false := decide_eq_false (by omega)
      have hd2 : decide (0 < (t : Int)) = true := decide_eq_true hgt
      clear ht
      go_wp2_with (go_at_call 68; refine HSH.out.mono ?_; rintro e w3 ⟨q, rfl, hn, hkk⟩; have HQ := Aside0.mk hn; have HKK := Aside0.mk hkk; clear hn hkk)
      go_meet
      case rel => exact ⟨HQ, ⟨HB2.out.trans (HKK.out.below (fun i h => h) HB2.out.size)⟩⟩
  case rest =>
    obtain ⟨HNM, HB3⟩ := hcut
    clear HNR2 HB2 HMS HN0 HNLIM HBI HTOP HBP HEV
    rcases HNM.out with ⟨_, h0⟩ | ⟨mq, Lm, Rm, rfl, hqz, hqok, hqcn, hqev, hqP, hqlen⟩
    · exact absurd h0 (by have := HR.out.gt; omega)
    have hm0 : 0 < Lm.length := by
      rcases Nat.eq_zero_or_pos Lm.length with h | h
      · rw [List.eq_nil_of_length_eq_zero h, ev_nil] at hqev; have := HR.out.gt; omega
      · exact h
    have hMf : (M : Int) + 1 < BW ^ 8 := by
      have h1 := HR.out.fit.bw
      omega
    have hm8 : Lm.length ≤ 8 := Cn_len_le hqcn BW_gt 8 (by rw [hqev]; omega)
    have HQZ := Aside0.mk hqz
    have HQOK := Aside0.mk hqok
    have HQCN := Aside0.mk hqcn
    have HQEV := Aside0.mk hqev
    have HMF := Aside0.mk hMf
    obtain ⟨ml, hml⟩ : ∃ ml, ml = Lm.length := ⟨_, rfl⟩
    obtain ⟨mc, hmc⟩ : ∃ mc, mc = (Lm ++ Rm).length := ⟨_, rfl⟩
    rw [← hml] at hm0 hm8
    rw [← hmc] at hqlen
    rw [← hml, ← hmc]
    have hmlc : ml ≤ mc := by rw [hml, hmc, List.length_append]; omega
    have HML := Aside0.mk (show ml = Lm.length ∧ mc = (Lm ++ Rm).length from ⟨hml, hmc⟩)
    have hmql := hp_lt hqz
    have hes : Xe - (B : Int) + sI = E2 := HES.out
    clear hqz hqok hqcn hqev hMf hml hmc HNM
    go_wp2_with (fail)
    have HDN4 : Aside0 (DNil (wc.alloc (.cells #[.slice none 0 0, .int .i64 0] 87)) wc.heap.size) := ⟨hp_new _ _ _ rfl⟩
    have HB4 : Aside0 (Below w.heap.size w (wc.alloc (.cells #[.slice none 0 0, .int .i64 0] 87))) := ⟨below_alloc HB3.out _⟩
    have HS4 : Aside0 ((wc.alloc (.cells #[.slice none 0 0, .int .i64 0] 87)).heap.size = wc.heap.size + 1) := ⟨by simp⟩
    have HQ4 : Aside0 (hp (wc.alloc (.cells #[.slice none 0 0, .int .i64 0] 87)) mq = some (.cells (u64s (Lm ++ Rm)) 108 (0, 0))) := ⟨hp_below HQZ.out (below_alloc (Below.refl _ _) _)⟩
    obtain ⟨bl, hbl⟩ : ∃ bl, bl = wc.heap.size := ⟨_, rfl⟩
    obtain ⟨w4, hw4⟩ : ∃ w4, w4 = wc.alloc (.cells #[.slice none 0 0, .int .i64 0] 87) := ⟨_, rfl⟩
    rw [← hbl, ← hw4] at HDN4
    rw [← hw4] at HB4 HQ4
    rw [← hbl, ← hw4] at HS4
    rw [← hbl, ← hw4]
    have HWB : Aside0 (w.heap.size ≤ bl) := ⟨by rw [hbl]; exact HB3.out.size⟩
    have HQB : Aside0 (mq < bl) := ⟨by rw [hbl]; exact hmql⟩
    clear hbl hw4 hmql HB3 HQZ hes
    refine (natOne_c _).mono ?_
    rintro e w5 ⟨rfl, h5, hb5⟩
    have HB5 := Aside0.mk (below_step HB4.out hb5)
    have HSUB := Aside0.mk (natSub_c mq w4.heap.size mc 1 Lm [1] Rm [] w5 (hp_below HQ4.out hb5) h5 HQCN.out.ok (okd_cons.2 ⟨by rw [BW_def]; omega, okd_nil _⟩) (by rw [← HML.out.2]; exact hqlen) ml 1 HML.out.1.symm rfl (by omega) (by omega) (by omega) (by rw [HQEV.out, ev_cons, ev_nil]; have := HR.out.gt; omega) hmlc (Nat.le_refl _))
    have HDN5 : Aside0 (DNil w5 bl) := ⟨hp_below (show hp w4 bl = _ from HDN4.out) hb5⟩
    have HQ5 := Aside0.mk (hp_below HQ4.out hb5)
    have HS5 := Aside0.mk hb5.size
    clear h5 hb5 HDN4 HQ4 HB4
    go_wp2_with (fail)
    refine HSUB.out.mono ?_
    rintro e w6 ⟨q6, rfl, hn6, hb6⟩
    have HB6 := Aside0.mk (below_step HB5.out hb6)
    have hv6 : ev BW Lm - ev BW [1] = ((M - 1 : Nat) : Int) := by rw [HQEV.out, ev_cons, ev_nil]; have := HR.out.gt; omega
    rw [hv6] at hn6
    rcases hn6 with ⟨_, h0⟩ | ⟨m6, L6, R6, rfl, hz6, hok6, hcn6, hev6, hP6, hlen6⟩
    · exact absurd h0 (by have := HR.out.gt; omega)
    have hl68 : L6.length ≤ 8 := Cn_len_le hcn6 BW_gt 8 (by rw [hev6]; have := HMF.out; omega)
    have HIL := Aside0.mk (init_c bl (M - 1) E2 m6 (L6 ++ R6).length L6 w6 (hp_below (show hp w5 bl = _ from HDN5.out) hb6) (row_C hz6 hlen6) (by rw [List.length_append]; omega) hcn6 hev6 (by have := HR.out.gt; omega) hl68 (hp_lt hz6) HR.out.lo (HTA.out w6 HB6.out) (HLA.out w6 HB6.out) HE29.out)
    rw [← HLO.out] at HIL
    have HQ6 := Aside0.mk (hp_below HQ5.out hb6)
    have HS6 := Aside0.mk hb6.size
    obtain ⟨n6, hn6'⟩ : ∃ n6, n6 = L6.length := ⟨_, rfl⟩
    obtain ⟨c6, hc6'⟩ : ∃ c6, c6 = (L6 ++ R6).length := ⟨_, rfl⟩
    rw [← hn6', ← hc6'] at HIL
    rw [← hn6', ← hc6']
    clear hv6 hz6 hok6 hcn6 hev6 hP6 hlen6 hl68 hb6 hn6' hc6' HSUB HDN5 HQ5 HB5
    go_wp2_with (fail)
    refine HIL.out.mono ?_
    rintro e w7 ⟨rfl, hk7, gl, Rl, hgl, hdl⟩
    have HDL7 := Aside0.mk hdl
    have HB7 : Aside0 (Below w.heap.size w w7) := ⟨HB6.out.trans (hk7.below (fun i hi => by have h : i = bl := hi; have := HWB.out; omega) HB6.out.size)⟩
    have HQ7 := Aside0.mk (hp_kept HQ6.out hk7 (fun h => by have h : mq = bl := h; have := HQB.out; omega))
    have HGL : Aside0 (bl < gl) := ⟨by have := HS4.out; have := HS5.out; have := HS6.out; omega⟩
    clear hk7 hgl hdl HIL HQ6 HB6 HS4 HS5 HS6
    go_wp2_with (fail)
    have HDN8 : Aside0 (DNil (w7.alloc (.cells #[.slice none 0 0, .int .i64 0] 87)) w7.heap.size) := ⟨hp_new _ _ _ rfl⟩
    have HB8 : Aside0 (Below w.heap.size w (w7.alloc (.cells #[.slice none 0 0, .int .i64 0] 87))) := ⟨below_alloc HB7.out _⟩
    have HS8 : Aside0 ((w7.alloc (.cells #[.slice none 0 0, .int .i64 0] 87)).heap.size = w7.heap.size + 1) := ⟨by simp⟩
    have HQ8 : Aside0 (hp (w7.alloc (.cells #[.slice none 0 0, .int .i64 0] 87)) mq = some (.cells (u64s (Lm ++ Rm)) 108 (0, 0))) := ⟨hp_below HQ7.out (below_alloc (Below.refl _ _) _)⟩
    have HDL8 : Aside0 (DX (w7.alloc (.cells #[.slice none 0 0, .int .i64 0] 87)) bl gl lo.1 Rl lo.2) := ⟨HDL7.out.below (below_alloc (Below.refl _ _) _)⟩
    have HLB : Aside0 (bl < w7.heap.size ∧ gl < w7.heap.size) := ⟨hp_lt HDL7.out.str, hp_lt HDL7.out.row⟩
    have HWU : Aside0 (w.heap.size ≤ w7.heap.size) := ⟨HB7.out.size⟩
    have HQU : Aside0 (mq < w7.heap.size) := ⟨hp_lt HQ7.out⟩
    obtain ⟨bu, hbu⟩ : ∃ bu, bu = w7.heap.size := ⟨_, rfl⟩
    obtain ⟨w8, hw8⟩ : ∃ w8, w8 = w7.alloc (.cells #[.slice none 0 0, .int .i64 0] 87) := ⟨_, rfl⟩
    rw [← hbu, ← hw8] at HDN8 HS8
    rw [← hw8] at HB8 HQ8 HDL8
    rw [← hbu] at HLB HWU HQU
    rw [← hbu, ← hw8]
    clear hbu hw8 HB7 HQ7 HDL7
    refine (natOne_c _).mono ?_
    rintro e w9 ⟨rfl, h9, hb9⟩
    have HB9 := Aside0.mk (below_step HB8.out hb9)
    have HADD := Aside0.mk (natAdd_c mq w8.heap.size mc 1 Lm [1] Rm [] w9 (hp_below HQ8.out hb9) h9 HQCN.out.ok (okd_cons.2 ⟨by rw [BW_def]; omega, okd_nil _⟩) (by rw [← HML.out.2]; exact hqlen) ml 1 HML.out.1.symm rfl (by omega) (by omega) (by omega) hmlc (Nat.le_refl _))
    have HDN9 : Aside0 (DNil w9 bu) := ⟨hp_below (show hp w8 bu = _ from HDN8.out) hb9⟩
    have HQ9 := Aside0.mk (hp_below HQ8.out hb9)
    have HDL9 := Aside0.mk (HDL8.out.below hb9)
    have HS9 := Aside0.mk hb9.size
    clear h9 hb9 HDN8 HQ8 HB8 HDL8
    go_wp2_with (fail)
    refine HADD.out.mono ?_
    rintro e w10 ⟨q10, rfl, hn10, hb10⟩
    have HB10 := Aside0.mk (below_step HB9.out hb10)
    have hv10 : ev BW Lm + ev BW [1] = ((M + 1 : Nat) : Int) := by rw [HQEV.out, ev_cons, ev_nil]; omega
    rw [hv10] at hn10
    rcases hn10 with ⟨_, h0⟩ | ⟨m10, L10, R10, rfl, hz10, hok10, hcn10, hev10, hP10, hlen10⟩
    · exact absurd h0 (by omega)
    have hl108 : L10.length ≤ 8 := Cn_len_le hcn10 BW_gt 8 (by rw [hev10]; have := HMF.out; omega)
    have HIU := Aside0.mk (init_c bu (M + 1) E2 m10 (L10 ++ R10).length L10 w10 (hp_below (show hp w9 bu = _ from HDN9.out) hb10) (row_C hz10 hlen10) (by rw [List.length_append]; omega) hcn10 hev10 (by omega) hl108 (hp_lt hz10) HR.out.up (HTA.out w10 HB10.out) (HLA.out w10 HB10.out) HE29.out)
    rw [← HUP.out] at HIU
    have HQ10 := Aside0.mk (hp_below HQ9.out hb10)
    have HDL10 := Aside0.mk (HDL9.out.below hb10)
    have HS10 := Aside0.mk hb10.size
    obtain ⟨n10, hn10'⟩ : ∃ n10, n10 = L10.length := ⟨_, rfl⟩
    obtain ⟨c10, hc10'⟩ : ∃ c10, c10 = (L10 ++ R10).length := ⟨_, rfl⟩
    rw [← hn10', ← hc10'] at HIU
    rw [← hn10', ← hc10']
    clear hv10 hz10 hok10 hcn10 hev10 hP10 hlen10 hl108 hb10 hn10' hc10' HADD HDN9 HQ9 HB9 HDL9
    go_wp2_with (fail)
    refine HIU.out.mono ?_
    rintro e w11 ⟨rfl, hk11, gu, Ru, hgu, hdu⟩
    have HDU := Aside0.mk hdu
    have HB11 : Aside0 (Below w.heap.size w w11) := ⟨HB10.out.trans (hk11.below (fun i hi => by have h : i = bu := hi; have := HWU.out; omega) HB10.out.size)⟩
    have HQ11 := Aside0.mk (hp_kept HQ10.out hk11 (fun h => by have h : mq = bu := h; have := HQU.out; omega))
    have HDL := Aside0.mk (HDL10.out.kept hk11 (fun h => by have h : bl = bu := h; have := HLB.out.1; omega) (fun h => by have h : gl = bu := h; have := HLB.out.2; omega))
    have HD := Aside0.mk (HDX.out.below HB11.out)
    clear hk11 hgu hdu HIU HQ10 HB10 HDL10 HS8 HS9 HS10 HDX HLB HWU HQU HGL HWB HQB
    obtain ⟨x0, hx0⟩ : ∃ x0, x0 = Lm.getD 0 0 := ⟨_, rfl⟩
    have hcx : w11.cell? ⟨mq, 0, none⟩ = some (.int .u64 x0) := by rw [hx0]; exact row_at HQ11.out 0 (by rw [← HML.out.1]; exact hm0)
    have hinx : (Go.bits .and .u64 x0 2 == 0) = inc := by
      have h1 := okd_get HQCN.out.ok BW_pos 0
      rw [← hx0, BW_def] at h1
      obtain ⟨n, hn⟩ := Int.eq_ofNat_of_zero_le h1.1
      rw [hn, and2 n (by omega), HINC.out]
      have h2 := ev_cut Lm 1 (by rw [← HML.out.1]; omega)
      have h3 : Lm.take 1 = [x0] := by
        rw [hx0]
        cases hc : Lm with
        | nil => rw [HML.out.1, hc] at hm0; simp at hm0
        | cons a t => rfl
      rw [HQEV.out, h3, ev_cons, ev_nil, hn, BW_def] at h2
      have h4 : M % 4 = n % 4 := by omega
      rw [h4]
    have hlo8 : lo.1.length ≤ 100000000 := HDL.out.len.1
    have hup8 : up.1.length ≤ 100000000 := HDU.out.len.1
    clear hx0 HLO HUP HINC
    obtain ⟨d0', d1', g0', g1'⟩ := blk2 HD.out.str
    have lbb := hp_lt HD.out.str
    go_upto_region 16 with (fail)
    have HRES0 : Aside0 (RES = rsS inc lo.1 up.1 d 0 (d.1.drop 0)) := ⟨by rw [HRES.out, List.drop_zero]⟩
    clear HRES d0' d1' g0' g1' lbb HQ11 HQCN HQEV HMF HR HSI HES HE29 hcx hinx HQOK HML
    go_loopg [87] d.1.length (fun k v87 wr => ∃ i : Nat, i + k = d.1.length ∧ v87 = .int .i64 (i : Int) ∧ Aside0 (RES = rsS inc lo.1 up.1 d i (d.1.drop i)) ∧ Aside0 (Below w11.heap.size w11 wr))
    case atStart => exact ⟨0, by omega, rfl, HRES0, ⟨Below.refl _ _⟩⟩
    case round =>
      clear HRES0
      obtain ⟨i, hik, rfl, HRI, HBR⟩ := hrel
      by_cases hlt : i < d.1.length
      · obtain ⟨k', rfl⟩ : ∃ k', gk = k' + 1 := ⟨gk - 1, by omega⟩
        have hlti : (i : Int) < (d.1.length : Int) := by omega
        have hiw : IntKind.i64.wrap ((i : Int) + 1) = ((i + 1 : Nat) : Int) := by rw [IntWalk.i64_in _ (by omega)]; omega
        have hcm := (HD.out.below HBR.out).cell i hlt
        obtain ⟨mm, hmm⟩ : ∃ mm, mm = d.1.getD i 0 := ⟨_, rfl⟩
        rw [← hmm] at hcm
        have hmd := HDB.out.dc.get i hlt
        rw [← hmm] at hmd
        obtain ⟨ll, hll⟩ : ∃ ll, ll = atI lo.1 (i : Int) := ⟨_, rfl⟩
        obtain ⟨uu, huu⟩ : ∃ uu, uu = atI up.1 (i : Int) := ⟨_, rfl⟩
        have HAL := Aside0.mk (at_c bl gl lo.1 Rl lo.2 (i : Int) wr (HDL.out.below HBR.out))
        rw [← hll] at HAL
        have HAU : Aside0 (∀ W, Below w11.heap.size w11 W → Calls Tryz.prog 82 #[.pointer (some ⟨bu, 0, none⟩), .int .i64 (i : Int)] W fun e w' => e = .returned (.int .u8 uu) ∧ Below W.heap.size W w') := ⟨fun W hW => by rw [huu]; exact at_c bu gu up.1 Ru up.2 (i : Int) W (HDU.out.below hW)⟩
        have hal : ∀ l : List Int, atI l (i : Int) = atD l i := fun l => by unfold atI atD; rw [if_pos (by omega), Int.toNat_natCast]
        have HOD : Aside0 (okDown inc lo.1 i mm = (decide (ll ≠ mm) || (inc && decide (i + 1 = lo.1.length)))) := ⟨by unfold okDown; rw [hll, hal]⟩
        have HOU : Aside0 (okUp inc up.1 i mm = (decide (mm ≠ uu) && (inc || decide (mm + 1 < uu) || decide (i + 1 < up.1.length) || (decide (up.1.length ≤ i) && decide (mm < 57))))) := ⟨by unfold okUp; rw [huu, hal]⟩
        have HRJ : Aside0 (RES = if okDown inc lo.1 i mm then (if okUp inc up.1 i mm then roundD d ((i : Int) + 1) else roundDownD d (i + 1)) else if okUp inc up.1 i mm then roundUpD d (i + 1) else rsS inc lo.1 up.1 d (i + 1) (d.1.drop (i + 1))) := ⟨by
          rw [HRI.out, List.drop_eq_getElem_cons hlt, rsS]
          have e : d.1[i] = mm := by rw [hmm, List.getD_eq_getElem?_getD, List.getElem?_eq_getElem hlt]; rfl
          rw [e]⟩
        obtain ⟨od, hod⟩ : ∃ od, od = okDown inc lo.1 i mm := ⟨_, rfl⟩
        obtain ⟨ou, hou⟩ : ∃ ou, ou = okUp inc up.1 i mm := ⟨_, rfl⟩
        rw [← hod] at HOD HRJ
        rw [← hou] at HOU HRJ
        have hmw : IntKind.u8.wrap (mm + 1) = mm + 1 := by rw [IntKind.wrap_u8']; omega
        have hi8 : i < 8000 := by omega
        clear hod hou hmm hll huu hal HRI
        go_wp2_with (go_at_call 82; refine HAL.out.mono ?_; rintro e w12 ⟨rfl, hb12⟩; have HB12 := Aside0.mk (below_step HBR.out hb12); have HAU2 := Aside0.mk (HAU.out w12 HB12.out); clear hb12 HAL)
        go_upto_region 20 with (go_at_call 82; refine HAU2.out.mono ?_; rintro e w13 ⟨rfl, hb13⟩; have HB13 := Aside0.mk (below_step HB12.out hb13); clear hb13)
        clear HAU HAU2 HB12 hcm
        have HD13 := Aside0.mk (HD.out.below HB13.out)
        have HL13 := Aside0.mk (HDL.out.below HB13.out)
        have HU13 := Aside0.mk (HDU.out.below HB13.out)
        obtain ⟨l0, l1, _, _⟩ := blk2 HL13.out.str
        have lgl := hp_lt HL13.out.str
        obtain ⟨n0, n1, _, _⟩ := blk2 HU13.out.str
        have lgu := hp_lt HU13.out.str
        go_cut [15] (fun v15 wx => v15 = .bool od ∧ w13 = wx)
        case first => as_aux_lemma =>
          by_cases h1 : ll = mm
          · have hq1 : (ll == mm) = true := by rw [beq_iff_eq]; exact h1
            have hq2 : (ll != mm) = false := by rw [bne, hq1]; rfl
            have HO2 : Aside0 (od = (inc && decide (i + 1 = lo.1.length))) := ⟨by rw [HOD.out, decide_eq_false (fun h => h h1)]; rfl⟩
            clear h1
            cases inc with
            | false =>
              have HO3 : Aside0 (od = false) := ⟨by rw [HO2.out]; rfl⟩
              go_wp2_with (fail)
              go_meet
              case rel => exact ⟨by rw [HO3.out], rfl⟩
            | true =>
              by_cases h2 : i + 1 = lo.1.length
              · have HO3 : Aside0 (od = true) := ⟨by rw [HO2.out, decide_eq_true h2]; rfl⟩
                have hq3 : (((i + 1 : Nat) : Int) == (lo.1.length : Int)) = true := by rw [beq_iff_eq]; omega
                have hq4 : ((i : Int) + 1 == (lo.1.length : Int)) = true := by rw [beq_iff_eq]; omega
                clear h2
                go_wp2_with (fail)
                go_meet
                case rel => exact ⟨by rw [HO3.out], rfl⟩
              · have HO3 : Aside0 (od = false) := ⟨by rw [HO2.out, decide_eq_false h2]; rfl⟩
                have hq3 : (((i + 1 : Nat) : Int) == (lo.1.length : Int)) = false := by rw [beq_eq_false_iff_ne]; omega
                have hq4 : ((i : Int) + 1 == (lo.1.length : Int)) = false := by rw [beq_eq_false_iff_ne]; omega
                clear h2
                go_wp2_with (fail)
                go_meet
                case rel => exact ⟨by rw [HO3.out], rfl⟩
          · have hq1 : (ll == mm) = false := by rw [beq_eq_false_iff_ne]; exact h1
            have hq2 : (ll != mm) = true := by rw [bne, hq1]; rfl
            have HO3 : Aside0 (od = true) := ⟨by rw [HOD.out, decide_eq_true h1]; rfl⟩
            go_wp2_with (fail)
            go_meet
            case rel => exact ⟨by rw [HO3.out], rfl⟩
        case rest =>
          obtain ⟨rfl, rfl⟩ := hcut
          go_upto_region 21 with (fail)
          go_cut [16] (fun v16 wx => v16 = .bool ou ∧ w13 = wx)
          case first => as_aux_lemma =>
            by_cases h1 : mm = uu
            · have hq1 : (mm == uu) = true := by rw [beq_iff_eq]; exact h1
              have hq2 : (mm != uu) = false := by rw [bne, hq1]; rfl
              have HO3 : Aside0 (ou = false) := ⟨by rw [HOU.out, decide_eq_false (fun h => h h1)]; rfl⟩
              clear h1
              go_wp2_with (fail)
              go_meet
              case rel => exact ⟨by rw [HO3.out], rfl⟩
            · have hq1 : (mm == uu) = false := by rw [beq_eq_false_iff_ne]; exact h1
              have hq2 : (mm != uu) = true := by rw [bne, hq1]; rfl
              have HO2 : Aside0 (ou = (inc || decide (mm + 1 < uu) || decide (i + 1 < up.1.length) || (decide (up.1.length ≤ i) && decide (mm < 57)))) := ⟨by rw [HOU.out, decide_eq_true h1, Bool.true_and]⟩
              clear h1
              cases inc with
              | true =>
                have HO3 : Aside0 (ou = true) := ⟨by rw [HO2.out]; rfl⟩
                go_wp2_with (fail)
                go_meet
                case rel => exact ⟨by rw [HO3.out], rfl⟩
              | false =>
                by_cases h2 : mm + 1 < uu
                · have HO3 : Aside0 (ou = true) := ⟨by rw [HO2.out, decide_eq_true h2]; rfl⟩
                  go_wp2_with (fail)
                  go_meet
                  case rel => exact ⟨by rw [HO3.out], rfl⟩
                · have h2d : decide (mm + 1 < uu) = false := decide_eq_false h2
                  by_cases h3 : i + 1 < up.1.length
                  · have HO3 : Aside0 (ou = true) := ⟨by rw [HO2.out, h2d, decide_eq_true h3]; rfl⟩
                    have h3i : ((i + 1 : Nat) : Int) < (up.1.length : Int) := by omega
                    have h3j : (i : Int) + 1 < (up.1.length : Int) := by omega
                    go_wp2_with (fail)
                    go_meet
                    case rel => exact ⟨by rw [HO3.out], rfl⟩
                  · have h3d : decide (i + 1 < up.1.length) = false := decide_eq_false h3
                    have h3e : decide (((i + 1 : Nat) : Int) < (up.1.length : Int)) = false := decide_eq_false (by omega)
                    have h3f : decide ((i : Int) + 1 < (up.1.length : Int)) = false := decide_eq_false (by omega)
                    by_cases h4 : up.1.length ≤ i
                    · have h4d : decide (up.1.length ≤ i) = true := decide_eq_true h4
                      have h4i : decide ((up.1.length : Int) ≤ (i : Int)) = true := decide_eq_true (by omega)
                      by_cases h5 : mm < 57
                      · have h5d : decide (mm < 57) = true := decide_eq_true h5
                        have HO3 : Aside0 (ou = true) := ⟨by rw [HO2.out, h2d, h3d, h4d, h5d]; rfl⟩
                        clear h2 h3 h4 h5
                        go_wp2_with (fail)
                        go_meet
                        case rel => exact ⟨by rw [HO3.out], rfl⟩
                      · have h5d : decide (mm < 57) = false := decide_eq_false h5
                        have HO3 : Aside0 (ou = false) := ⟨by rw [HO2.out, h2d, h3d, h4d, h5d]; rfl⟩
                        clear h2 h3 h4 h5
                        go_wp2_with (fail)
                        go_meet
                        case rel => exact ⟨by rw [HO3.out], rfl⟩
                    · have h4d : decide (up.1.length ≤ i) = false := decide_eq_false h4
                      have h4i : decide ((up.1.length : Int) ≤ (i : Int)) = false := decide_eq_false (by omega)
                      have HO3 : Aside0 (ou = false) := ⟨by rw [HO2.out, h2d, h3d, h4d]; rfl⟩
                      clear h2 h3 h4
                      go_wp2_with (fail)
                      go_meet
                      case rel => exact ⟨by rw [HO3.out], rfl⟩
          case rest =>
            obtain ⟨rfl, rfl⟩ := hcut
            clear HOD HOU HL13 HU13 l0 l1 n0 n1 lgl lgu
            have HK13 : Aside0 (Kept (On2 bb g1) w w13) := ⟨Kept.of_below (HB11.out.trans (HB13.out.mono HB11.out.size))⟩
            have HEB : Aside0 (-10000000 ≤ d.2 ∧ d.2 ≤ 10000000) := ⟨by have := HDB.out.lo; have := HDB.out.hi; omega⟩
            cases od with
            | true =>
              cases ou with
              | true =>
                have HR2 : Aside0 (RES = roundD d ((i + 1 : Nat) : Int)) := ⟨by rw [HRJ.out, if_pos rfl, if_pos rfl]; rfl⟩
                have HC := Aside0.mk (round_d bb g1 ((i + 1 : Nat) : Int) d.1 R1 d.2 w13 HD13.out HEB.out HDB.out.digs)
                go_wp2_with (go_at_call 54; refine HC.out.mono ?_; rintro e w14 ⟨rfl, hk14, R14, h14⟩; have HK14 := Aside0.mk hk14; have H14 := Aside0.mk h14; clear hk14 h14)
                refine bodyPost_ret (v := .tuple #[]) (by simp [results, Tryz.results53, go_sem]) rfl ?_
                exact ⟨rfl, HK13.out.then HK14.out, R14, by rw [HR2.out]; exact H14.out⟩
              | false =>
                have HR2 : Aside0 (RES = roundDownD d (i + 1)) := ⟨by rw [HRJ.out, if_pos rfl, if_neg (by decide)]⟩
                have HC := Aside0.mk (roundDown_c bb g1 (i + 1) d.1 R1 d.2 w13 HD13.out)
                go_wp2_with (go_at_call 83; refine HC.out.mono ?_; rintro e w14 ⟨rfl, hk14, R14, h14⟩; have HK14 := Aside0.mk hk14; have H14 := Aside0.mk h14; clear hk14 h14)
                refine bodyPost_ret (v := .tuple #[]) (by simp [results, Tryz.results53, go_sem]) rfl ?_
                exact ⟨rfl, HK13.out.then HK14.out, R14, by rw [HR2.out]; exact H14.out⟩
            | false =>
              cases ou with
              | true =>
                have HR2 : Aside0 (RES = roundUpD d (i + 1)) := ⟨by rw [HRJ.out, if_neg (by decide), if_pos rfl]⟩
                have HC := Aside0.mk (roundUp_c bb g1 (i + 1) d.1 R1 d.2 w13 HD13.out HEB.out HDB.out.digs (by omega))
                go_wp2_with (go_at_call 84; refine HC.out.mono ?_; rintro e w14 ⟨rfl, hk14, R14, h14⟩; have HK14 := Aside0.mk hk14; have H14 := Aside0.mk h14; clear hk14 h14)
                refine bodyPost_ret (v := .tuple #[]) (by simp [results, Tryz.results53, go_sem]) rfl ?_
                exact ⟨rfl, HK13.out.then HK14.out, R14, by rw [HR2.out]; exact H14.out⟩
              | false =>
                have HR2 : Aside0 (RES = rsS inc lo.1 up.1 d (i + 1) (d.1.drop (i + 1))) := ⟨by rw [HRJ.out, if_neg (by decide), if_neg (by decide)]⟩
                go_wp2_with (fail)
                go_roundg k'
                case measure => omega
                case rel => exact ⟨i + 1, by omega, by first | rfl | simp, HR2, HB13⟩
      · have hlti : ¬ (i : Int) < (d.1.length : Int) := by omega
        have HR2 : Aside0 (RES = d) := ⟨by rw [HRI.out, List.drop_eq_nil_of_le (by omega), rsS]⟩
        go_wp2_with (fail)
        go_end0
        exact ⟨rfl, Kept.of_below (HB11.out.trans (HBR.out.mono HB11.out.size)), R1, by rw [HR2.out]; exact HD.out.below HBR.out⟩
end Go.Proofs.YtfnknldbjckgoaaGreatDoor.Sp
