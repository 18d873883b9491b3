/-
  Several texts in one (merged by program).
-/
import Derived.Test.YtfnknldbjckgoaaGreatDoorZGdec
import Derived.Test.YtfnknldbjckgoaaGreatDoorZGflt
import Derived.Test.YtfnknldbjckgoaaGreatDoorZGnat
import Derived.Test.YtfnknldbjckgoaaGreatDoorZGdcm
/-! ## HexP -/
section
namespace Go.Proofs.YtfnknldbjckgoaaGreatDoor.Dig
set_option linter.unusedVariables false
theorem figs_shift (b n j : Nat) (hb : 2 ≤ b) (h16 : b ≤ 16) (h0 : 0 < n) : figs b (n * b ^ j) = figs b n ++ List.replicate j 48 := by
  induction j with
  | zero => simp
  | succ j ih =>
    have hp : 0 < n * b ^ (j + 1) := Nat.mul_pos h0 (Nat.pow_pos (by omega))
    rw [(figs_succ b _ hb h16 hp).1, Nat.pow_succ, ← Nat.mul_assoc, Nat.mul_div_cancel _ (by omega), Nat.mul_mod_left, ih, List.replicate_succ', List.append_assoc]
    rfl
theorem rz_app_rep1 (l : List Int) (k : Nat) : rz (l ++ List.replicate k 48) = rz l := by
  induction k with
  | zero => simp
  | succ k ih => rw [List.replicate_succ', ← List.append_assoc, rz_snoc, if_pos rfl, ih]
theorem rz_figs_shift (b n j : Nat) (hb : 2 ≤ b) (h16 : b ≤ 16) (h0 : 0 < n) : rz (figs b (n * b ^ j)) = rz (figs b n) := by
  rw [figs_shift b n j hb h16 h0, rz_app_rep1]
theorem figs_low (b J v : Nat) (hb : 2 ≤ b) (h16 : b ≤ 16) (h1 : b ^ (J - 1) ≤ v) (h2 : v < b ^ J) (hJ : 0 < J) : figs b v = lows b J v := by
  obtain ⟨K, rfl⟩ : ∃ K, J = K + 1 := ⟨J - 1, by omega⟩
  rw [Nat.add_sub_cancel] at h1
  have hd0 : 0 < v / b ^ K := Nat.div_pos h1 (Nat.pow_pos (by omega))
  have hd1 : v / b ^ K < b := Nat.div_lt_of_lt_mul (by rw [← Nat.pow_succ]; exact h2)
  have e : lows b (K + 1) v = fig (v / b ^ K) :: lows b K v := by
    rw [Nat.add_comm, lows_split]
    show [fig (v / b ^ K % b)] ++ lows b K v = _
    rw [Nat.mod_eq_of_lt hd1]
    rfl
  rw [← lz_lows b (K + 1) v hb h2, e, lz, if_neg (fig_ne _ hd0 (by omega))]
/-- One figure of what is left: the word wd with c + 1 figures in it, H above. -/
theorem hex_step {R wd H c : Nat} (h : R = wd + 16 ^ (c + 1) * H) (hw : wd < 16 ^ (c + 1)) : R % 16 = wd % 16 ∧ R / 16 = wd / 16 + 16 ^ c * H ∧ wd / 16 < 16 ^ c := by
  rw [Nat.pow_succ] at h hw
  obtain ⟨P, hP⟩ : ∃ P, P = 16 ^ c := ⟨_, rfl⟩
  rw [← hP] at h hw ⊢
  have e : P * 16 * H = 16 * (P * H) := by rw [Nat.mul_comm P 16, Nat.mul_assoc]
  rw [e] at h
  obtain ⟨Q, hQ⟩ : ∃ Q, Q = P * H := ⟨_, rfl⟩
  rw [← hQ] at h ⊢
  omega
/-- What p writes: v times 2 to the x, v of b bits. -/
def fmtPT (v b : Nat) (x : Int) : List Int := [48, 120, 46] ++ rz (figs 16 (v * 2 ^ ((4 - b % 4) % 4))) ++ [112] ++ (if 0 ≤ (b : Int) + x then [43] else []) ++ itoaI ((b : Int) + x)
/-- The figures hang on the value alone. -/
theorem rz_words (v b n i : Nat) (V : Nat) (hv : 0 < v) (hb : b ≤ 64 * n) (hV : V * 2 ^ (64 * i) = v * 2 ^ (64 * n - b)) : rz (figs 16 V) = rz (figs 16 (v * 2 ^ ((4 - b % 4) % 4))) := by
  have hV0 : 0 < V := by
    rcases Nat.eq_zero_or_pos V with h | h
    · rw [h, Nat.zero_mul] at hV
      have := Nat.mul_pos hv (Nat.two_pow_pos (64 * n - b))
      omega
    · exact h
  have hm : 0 < v * 2 ^ ((4 - b % 4) % 4) := Nat.mul_pos hv (Nat.two_pow_pos _)
  have h1 := rz_figs_shift 16 V (16 * i) (by omega) (by omega) hV0
  have h2 := rz_figs_shift 16 (v * 2 ^ ((4 - b % 4) % 4)) ((64 * n - b - (4 - b % 4) % 4) / 4) (by omega) (by omega) hm
  have e1 : V * 16 ^ (16 * i) = V * 2 ^ (64 * i) := by rw [show (16 : Nat) = 2 ^ 4 from rfl, ← Nat.pow_mul]; congr 2; omega
  have e2 : v * 2 ^ ((4 - b % 4) % 4) * 16 ^ ((64 * n - b - (4 - b % 4) % 4) / 4) = v * 2 ^ (64 * n - b) := by
    rw [show (16 : Nat) = 2 ^ 4 from rfl, ← Nat.pow_mul, Nat.mul_assoc, ← Nat.pow_add]
    congr 2
    omega
  rw [← h1, ← h2, e1, e2, hV]
end Go.Proofs.YtfnknldbjckgoaaGreatDoor.Dig
end

/-! ## SetX -/
section
namespace Go.Proofs.YtfnknldbjckgoaaGreatDoor.Sp
open Go.RowKit Go.Proofs.YtfnknldbjckgoaaGreatDoorW.PrintWords Go.Proofs.YtfnknldbjckgoaaGreatDoorW.PrintLast Go.Proofs.YtfnknldbjckgoaaGreatDoorW.PrintMore Go.Proofs.YtfnknldbjckgoaaGreatDoor.Dig
set_option linter.unusedVariables false
set_option linter.unusedSimpArgs false
/-- A finite value that was set into a fresh Float of n bits. -/
def SetXPost (w : World) (g p n : Nat) (m : Int) (neg : Bool) (E : Int) (L : List Int) (e : Ending) (w' : World) : Prop :=
  e = .returned (.pointer (some ⟨g, 0, none⟩)) ∧ Kept (On g) w w' ∧ ∃ mb c L2 R2 acc E2, g ≠ mb ∧ w.heap.size ≤ mb ∧ Flt w' g mb n m acc 1 neg L2.length c E2 (L2 ++ R2) ∧ okd BW L2 ∧ 0 < L2.length ∧
    (((p ≤ n ∨ 64 * L.length ≤ n) ∧ L2 = L ∧ E2 = E) ∨ (n < p ∧ n < 64 * L.length ∧ L2.length = (n + 63) / 64 ∧ E2 = rexp n (rq neg m (ev BW L) (64 * L.length - n) false) E ∧ ev BW L2 = rmant n (rq neg m (ev BW L) (64 * L.length - n) false) * 2 ^ (64 * L2.length - n)))
set_option maxHeartbeats 3200000 in
set_option maxRecDepth 100000 in
theorem setX_c (g gx mx p n : Nat) (m m0 acc0 acc a3 : Int) (a4 neg : Bool) (a6 : Int) (c : Nat) (E : Int) (L R : List Int) (w : World) (hz : hp w g = some (.cells #[.int .u32 n, .int .u8 m, .int .i8 acc0, .int .u8 a3, .bool a4, .slice none 0 0, .int .i32 a6] 83 (0, 0))) (h : Flt w gx mx p m0 acc 1 neg L.length c E (L ++ R)) (hC : Canon p L) (hne : g ≠ gx) (hbig : L.length ≤ 900000) (hn1 : 1 ≤ n ∧ n < 4294967296) (hm : 0 ≤ m ∧ m < 6) (hE : -2147483648 ≤ E ∧ E < 2147483647) (hp9 : p < 4294967296) :
    Calls Tryz.prog 74 #[.pointer (some ⟨g, 0, none⟩), .pointer (some ⟨gx, 0, none⟩)] w (SetXPost w g p n m neg E L) := by
  have h0 := hC.pos
  have hmg : mx ≠ g := by
    have hw := h.word 0 (by rw [List.length_append]; omega)
    exact not_block hw.1 hz (by simp)
  have hk0 : Kept (On g) w (w.setCell ⟨g, 2, none⟩ (.int .i8 0)) := (Kept.refl (On g) w).setCell (p := ⟨g, 2, none⟩) (.inl rfl) _
  have hz0 : hp (w.setCell ⟨g, 2, none⟩ (.int .i8 0)) g = some (.cells #[.int .u32 n, .int .u8 m, .int .i8 0, .int .u8 a3, .bool a4, .slice none 0 0, .int .i32 a6] 83 (0, 0)) := by rw [hp_here _ _ _ _ _ rfl, hz]; rfl
  have hq := neq_other 54 83 Tryz.underlying54 infoFloat (by decide) (a := ⟨g, 0, none⟩) (b := ⟨gx, 0, none⟩) (w := w.setCell ⟨g, 2, none⟩ (.int .i8 0)) (by simp [hne]) hz0 (hp_kept h.flt hk0 (fun e => hne e.symm))
  clear hk0 hz0
  obtain ⟨w1, hw1⟩ : ∃ w1, w1 = (((w.setCell ⟨g, 2, none⟩ (.int .i8 0)).setCell ⟨g, 3, none⟩ (.int .u8 1)).setCell ⟨g, 4, none⟩ (.bool neg)).setCell ⟨g, 6, none⟩ (.int .i32 E) := ⟨_, rfl⟩
  have hK1 : Kept (On g) w w1 := by rw [hw1]; exact ((((Kept.refl (On g) w).setCell (p := ⟨g, 2, none⟩) (.inl rfl) _).setCell (p := ⟨g, 3, none⟩) (.inl rfl) _).setCell (p := ⟨g, 4, none⟩) (.inl rfl) _).setCell (p := ⟨g, 6, none⟩) (.inl rfl) _
  have hz1 : hp w1 g = some (.cells #[.int .u32 n, .int .u8 m, .int .i8 0, .int .u8 1, .bool neg, .slice none 0 0, .int .i32 E] 83 (0, 0)) := by
    rw [hw1, hp_here _ _ _ _ _ rfl, hp_here _ _ _ _ _ rfl, hp_here _ _ _ _ _ rfl, hp_here _ _ _ _ _ rfl, hz]; rfl
  have hne' : gx ≠ g := fun e => hne e.symm
  have hF1 : Flt w1 gx mx p m0 acc 1 neg L.length c E (L ++ R) := h.kept hK1 hne' hmg
  have hC1 := hF1.C
  rw [List.take_left' rfl] at hC1
  have HSET := Aside0.mk (set_c (.slice none 0 0) (fun _ => False) ⟨mx, 0, none⟩ c L w1.drew (Dst.nil _ _) (show Kd.C (Kd.int .u64) w1.drew (some ⟨mx, 0, none⟩) L.length L from ⟨hC1.1, hC1.2.1, hC1.2.2⟩) (okd_append.1 hF1.ok).1 h0 hbig (fun h => h) (hp_lt (show hp w1.drew mx = _ from hF1.drew.mant)))
  have HK1 := Aside0.mk hK1
  have HZ1 := Aside0.mk hz1
  have HF1 := Aside0.mk hF1
  have HCN := Aside0.mk hC
  have hs1 : w.heap.size ≤ w1.heap.size := hK1.size
  have HW1 := Aside0.mk hw1
  obtain ⟨z0, z1, z2, z3, z4, z5, z6, e0, e1, e2, e3, e4, e5, e6⟩ := blk7 hz
  obtain ⟨c0, c1, c2, c3, c4, c5, c6, f0, f1, f2, f3, f4, f5, f6⟩ := blk7 h.flt
  have lg := hp_lt hz
  have lx := hp_lt h.flt
  have hn0 : ((n : Int) == 0) = false := by rw [beq_eq_false_iff_ne]; omega
  clear hw1 hK1 hz1 hF1 hC1 hC
  go_enter Tryz.func74, Tryz.ntmps74
  go_wp2_with (fail)
  rw [← HW1.out]
  clear h hz HW1 z0 z1 z2 z3 z4 z5 z6 e0 e1 e2 e3 e4 e5 e6 c0 c1 c2 c3 c4 c5 c6 f0 f1 f2 f3 f4 f5 f6 hq
  obtain ⟨z0, z1, z2, z3, z4, z5, z6, e0, e1, e2, e3, e4, e5, e6⟩ := blk7 HZ1.out
  obtain ⟨c0, c1, c2, c3, c4, c5, c6, f0, f1, f2, f3, f4, f5, f6⟩ := blk7 HF1.out.flt
  have lg1 := hp_lt HZ1.out
  have lx1 := hp_lt HF1.out.flt
  refine start_ (n := 13) (S := fun w' => w'.cell? ⟨g, 5, none⟩ = some (.slice none 0 0) ∧ w'.cell? ⟨gx, 5, none⟩ = some (.slice (some ⟨mx, 0, none⟩) L.length c)) (ds := [12]) #[false, false, false, false, false, false, false, false, false, false, false, false, false] (by kernel_rfl) rfl rfl ⟨(by go_simp), (by go_simp)⟩ (fun hHeld => ?_)
  refine pure_ (i := 0) (N := some 37) (v := ?_) (a' := ?_) #[true, false, false, false, false, false, false, false, false, false, false, false, false] rfl rfl (by kernel_rfl) (fun _ _ _ h => h) (Or.inl ⟨by rfl, ?_⟩) ?_ ?_
  rotate_left
  · intro w'
    go_simp
    with_reducible rfl
  rotate_left
  · simp only [Act.put, List.setIfInBounds_toArray, List.set_cons_zero, List.set_cons_succ, i64_w, i32_w]
    rfl
  refine pure_ (i := 1) (N := some 38) (v := ?_) (a' := ?_) #[true, true, false, false, false, false, false, false, false, false, false, false, false] rfl rfl (by kernel_rfl) (fun _ _ _ h => h) (Or.inl ⟨by rfl, ?_⟩) ?_ ?_
  rotate_left
  · intro w'
    go_simp
    with_reducible rfl
  rotate_left
  · simp only [Act.put, List.setIfInBounds_toArray, List.set_cons_zero, List.set_cons_succ, i64_w, i32_w]
    rfl
  refine pure_ (i := 2) (N := some 39) (v := ?_) (a' := ?_) #[true, true, true, false, false, false, false, false, false, false, false, false, false] rfl rfl (by kernel_rfl) (fun _ _ _ h => h) (Or.inl ⟨by rfl, ?_⟩) ?_ ?_
  rotate_left
  · intro w'
    go_simp
    with_reducible rfl
  rotate_left
  · simp only [Act.put, List.setIfInBounds_toArray, List.set_cons_zero, List.set_cons_succ, i64_w, i32_w]
    rfl
  refine pure_ (i := 3) (N := some 40) (v := ?_) (a' := ?_) #[true, true, true, true, false, false, false, false, false, false, false, false, false] rfl rfl (by kernel_rfl) (fun _ _ _ h => h) (Or.inl ⟨by rfl, ?_⟩) ?_ ?_
  rotate_left
  · intro w'
    go_simp
    with_reducible rfl
  rotate_left
  · simp only [Act.put, List.setIfInBounds_toArray, List.set_cons_zero, List.set_cons_succ, i64_w, i32_w]
    rfl
  refine pure_ (i := 5) (N := some 42) (v := ?_) (a' := ?_) #[true, true, true, true, false, true, false, false, false, false, false, false, false] rfl rfl (by kernel_rfl) (fun _ _ _ h => h) (Or.inl ⟨by rfl, ?_⟩) ?_ ?_
  rotate_left
  · intro w'
    go_simp
    with_reducible rfl
  rotate_left
  · simp only [Act.put, List.setIfInBounds_toArray, List.set_cons_zero, List.set_cons_succ, i64_w, i32_w]
    rfl
  refine pure_ (i := 6) (N := some 43) (v := ?_) (a' := ?_) #[true, true, true, true, false, true, true, false, false, false, false, false, false] rfl rfl (by kernel_rfl) (fun _ _ _ h => h) (Or.inl ⟨by rfl, ?_⟩) ?_ ?_
  rotate_left
  · intro w'
    go_simp
    with_reducible rfl
  rotate_left
  · simp only [Act.put, List.setIfInBounds_toArray, List.set_cons_zero, List.set_cons_succ, i64_w, i32_w]
    rfl
  refine pure_ (i := 7) (N := some 44) (v := ?_) (a' := ?_) #[true, true, true, true, false, true, true, true, false, false, false, false, false] rfl rfl (by kernel_rfl) (fun _ _ _ h => h) (Or.inl ⟨by rfl, ?_⟩) ?_ ?_
  rotate_left
  · intro w'
    go_simp
    with_reducible rfl
  rotate_left
  · simp only [Act.put, List.setIfInBounds_toArray, List.set_cons_zero, List.set_cons_succ, i64_w, i32_w]
    rfl
  refine take_ (i := 4) (N := some 41) (v := ?_) (a' := ?_) #[true, true, true, true, true, true, true, true, false, false, false, false, false] rfl rfl (by kernel_rfl) (fun _ _ _ h => h) (Or.inl ⟨by rfl, ?_⟩) hHeld ?_ ?_
  rotate_left
  · rintro w' ⟨s0, s1⟩
    go_simp
    with_reducible rfl
  rotate_left
  · simp only [Act.put, List.setIfInBounds_toArray, List.set_cons_zero, List.set_cons_succ, i64_w, i32_w]
    rfl
  refine take_ (i := 8) (N := some 45) (v := ?_) (a' := ?_) #[true, true, true, true, true, true, true, true, true, false, false, false, false] rfl rfl (by kernel_rfl) (fun _ _ _ h => h) (Or.inl ⟨by rfl, ?_⟩) hHeld ?_ ?_
  rotate_left
  · rintro w' ⟨s0, s1⟩
    go_simp
    with_reducible rfl
  rotate_left
  · simp only [Act.put, List.setIfInBounds_toArray, List.set_cons_zero, List.set_cons_succ, i64_w, i32_w]
    rfl
  refine one_ (i := 9) (N := some 46) #[true, true, true, true, true, true, true, true, true, true, false, false, false] rfl rfl (by kernel_rfl) (by decide) (fun K hK => ?_)
  refine goes_ Tryz.func78 (by kernel_rfl) rfl #[.slice none 0 0, .slice (some ⟨mx, 0, none⟩) L.length c] (by rfl) rfl rfl (by simp only [List.map_toArray, List.map_cons, List.map_nil]; rfl) ?_
  with_reducible refine (HSET.out).mono ?_
  rintro e w2 ⟨mb, R2, cc, rfl, hcc, hmx, hmb, hm, hokR, hk2⟩
  refine ⟨_, rfl, ?_⟩
  have HCC := Aside0.mk hcc
  have HMB := Aside0.mk hmb
  have q0 := hk2.cell (p := ⟨g, 5, none⟩) hHeld.1 (fun h => h)
  have q1 := hk2.cell (p := ⟨gx, 5, none⟩) hHeld.2 (fun h => h)
  have HM2 := Aside0.mk hm
  have HO2 := Aside0.mk hokR
  have HK2 := Aside0.mk hk2
  have hz2 := hp_kept (show hp w1.drew g = _ from HZ1.out) hk2 (fun h => h)
  have HZ2 := Aside0.mk hz2
  have hx2 := hp_kept (show hp w1.drew gx = _ from HF1.out.flt) hk2 (fun h => h)
  have HX2 := Aside0.mk hx2
  have lg2 := hp_lt hz2
  have lx2 := hp_lt hx2
  have r5 : w2.frozen? ⟨g, 5, none⟩ = false := blk_frozen hz2 5
  clear hz2 hx2 hcc hmb hm hokR hk2 z0 z1 z2 z3 z4 z5 z6 e0 e1 e2 e3 e4 e5 e6 c0 c1 c2 c3 c4 c5 c6 f0 f1 f2 f3 f4 f5 f6
  refine hK.out _ _ ⟨q0, q1⟩ (fun hHeld => ?_)
  clear hK K
  refine norm_ (a' := ?_) ?_ ?_
  rotate_left
  · show Act.put _ (some 46) _ = _
    simp only [Act.put, List.setIfInBounds_toArray, List.set_cons_zero, List.set_cons_succ, i64_w, i32_w]
    rfl
  refine pure_ (i := 10) (N := some 47) (v := ?_) (a' := ?_) #[true, true, true, true, true, true, true, true, true, true, true, false, false] rfl rfl (by kernel_rfl) (fun _ _ _ h => h) (Or.inl ⟨by rfl, ?_⟩) ?_ ?_
  rotate_left
  · intro w'
    go_simp
    with_reducible rfl
  rotate_left
  · simp only [Act.put, List.setIfInBounds_toArray, List.set_cons_zero, List.set_cons_succ, i64_w, i32_w]
    rfl
  refine pure_ (i := 11) (N := some 48) (v := ?_) (a' := ?_) #[true, true, true, true, true, true, true, true, true, true, true, true, false] rfl rfl (by kernel_rfl) (fun _ _ _ h => h) (Or.inl ⟨by rfl, ?_⟩) ?_ ?_
  rotate_left
  · intro w'
    go_simp
    with_reducible rfl
  rotate_left
  · simp only [Act.put, List.setIfInBounds_toArray, List.set_cons_zero, List.set_cons_succ, i64_w, i32_w]
    rfl
  refine last_ (i := 12) (N := none) #[true, true, true, true, true, true, true, true, true, true, true, true, true] rfl rfl (by kernel_rfl) (by decide) (fun K hK => ?_)
  refine skip_ (w1 := ?_) (by rfl) rfl ?_ ?_
  rotate_left
  · go_simp
    rfl
  refine hK.out _ _ ?_
  clear hK K
  refine done_ (by kernel_rfl) ?_
  have hmb1 : mb = w1.heap.size := by
    rcases HMB.out with h | h
    · exact h.elim
    · exact h
  have hgm : g ≠ mb := by omega
  have hxm : gx ≠ mb := by omega
  obtain ⟨w3, hw3⟩ : ∃ w3, w3 = w2.setCell ⟨g, 5, none⟩ (.slice (some ⟨mb, 0, none⟩) L.length cc) := ⟨_, rfl⟩
  have hF3 : Flt w3 g mb n m 0 1 neg L.length cc E (L ++ R2) := by
    rw [hw3]
    have h1 := HCC.out
    rw [List.length_append] at h1
    exact ⟨by rw [hp_here _ _ _ _ _ rfl, HZ2.out]; rfl, by rw [hp_other _ _ _ _ hgm]; exact HM2.out, hgm, HO2.out, by rw [List.length_append]; omega, by omega, by rw [HCC.out]; exact hmx⟩
  have hX3 : hp w3 gx = some (.cells #[.int .u32 p, .int .u8 m0, .int .i8 acc, .int .u8 1, .bool neg, .slice (some ⟨mx, 0, none⟩) L.length c, .int .i32 E] 83 (0, 0)) := by
    rw [hw3, hp_other _ _ _ _ hne]; exact HX2.out
  have hK3 : Kept (On g) w w3 := by
    rw [hw3]
    refine (HK1.out.drew.trans HK2.out (fun i _ h => h.elim)).setCell (p := ⟨g, 5, none⟩) (.inl rfl) _
  rw [← hw3]
  have HF3 := Aside0.mk hF3
  have HK3 := Aside0.mk hK3
  have HMW : Aside0 (w.heap.size ≤ mb) := ⟨by omega⟩
  have HFD : Aside0 (∀ k, Flt (w3.drewN k) g mb n m 0 1 neg L.length cc E (L ++ R2)) := ⟨fun k => hF3.below ⟨rfl, rfl, rfl, Nat.le_refl _, fun _ _ => rfl⟩⟩
  have HKD : Aside0 (∀ k, Kept (On g) w (w3.drewN k)) := ⟨fun k => hK3.then (Kept.of_below (S := On g) ⟨rfl, rfl, rfl, Nat.le_refl _, fun _ _ => rfl⟩)⟩
  have HRD : Aside0 (∀ k, Calls Tryz.prog 105 #[.pointer (some ⟨g, 0, none⟩), .int .u64 0] (w3.drewN k) (RoundPost (w3.drewN k) g mb n m neg cc E L R2 false)) := ⟨fun k => round_c g mb n m 0 neg cc E L R2 false 0 _ (HFD.out k) hn1 hm hE h0 (by omega) rfl⟩
  clear hw3 hK3 HM2 HK2 HF1 HK1 HSET q0 q1 hHeld lg2 r5 HX2 HZ2 HZ1 hmb1
  obtain ⟨z0, z1, z2, z3, z4, z5, z6, e0, e1, e2, e3, e4, e5, e6⟩ := blk7 hF3.flt
  obtain ⟨c0, c1, c2, c3, c4, c5, c6, f0, f1, f2, f3, f4, f5, f6⟩ := blk7 hX3
  have lg3 := hp_lt hF3.flt
  have lx3 := hp_lt hX3
  clear hF3 hX3
  by_cases hpn : n < p
  · have hlt : decide ((n : Int) < (p : Int)) = true := decide_eq_true (by omega)
    have hlt' : (n : Int) < (p : Int) := by omega
    go_wp2_with (go_quiet (fail))
    go_wp2_with (go_at_call 105; refine (HRD.out _).mono ?_; intro e w4 hr; have HR := Aside0.mk (round_any hr HCN.out.ok HCN.out.pos HCN.out.top hn1.1 (fun h => by have := HCN.out.len; omega)); obtain rfl := hr.1; clear hr)
    go_ret
    obtain ⟨_, hk, L2, R3, acc2, E2, h1, h2, h3, h4⟩ := HR.out
    refine ⟨rfl, (HKD.out _).trans hk (fun i hi h => ?_), mb, cc, L2, R3, acc2, E2, hgm, HMW.out, h2, h3.ok, h3.pos, ?_⟩
    · rcases h with h | h
      · exact h
      · have := HMW.out
        have h' : i = mb := h
        omega
    · rcases h4 with ⟨h5, h6, h7, _⟩ | ⟨h5, h6, _, h8, h9⟩
      · exact .inl ⟨.inr h5, h6, h7⟩
      · exact .inr ⟨hpn, h5, h6, h8, h9⟩
  · have hlt : decide ((n : Int) < (p : Int)) = false := decide_eq_false (by omega)
    have HPN := Aside0.mk hpn
    go_wp2_with (go_quiet (fail))
    go_ret
    exact ⟨rfl, HKD.out _, mb, cc, L, R2, 0, E, hgm, HMW.out, HFD.out _, HCN.out.ok, HCN.out.pos, .inl ⟨.inl (by have := HPN.out; omega), rfl, rfl⟩⟩
end Go.Proofs.YtfnknldbjckgoaaGreatDoor.Sp
end

/-! ## HexX -/
section
namespace Go.Proofs.YtfnknldbjckgoaaGreatDoor.Sp
open Go.RowKit Go.Proofs.YtfnknldbjckgoaaGreatDoorW.PrintWords Go.Proofs.YtfnknldbjckgoaaGreatDoorW.PrintLast Go.Proofs.YtfnknldbjckgoaaGreatDoorW.PrintMore Go.Proofs.YtfnknldbjckgoaaGreatDoor.Dig
set_option linter.unusedVariables false
set_option linter.unusedSimpArgs false
/-- The mantissa v of b bits as one of n bits, rounded in mode m. -/
def xM (neg : Bool) (m v : Int) (b n : Nat) : Int := if b ≤ n then v * 2 ^ (n - b) else rmant n (rq neg m v (b - n) false)
/-- The exponent that belongs to it: of v times 2 to the x. -/
def xE (neg : Bool) (m v : Int) (b n : Nat) (x : Int) : Int := if b ≤ n then (b : Int) + x else rexp n (rq neg m v (b - n) false) ((b : Int) + x)
/-- What x writes. -/
def fmtXT (neg : Bool) (m : Int) (v b n : Nat) (x : Int) : List Int :=
  [48, 120, 49] ++ (if n = 1 then [] else [46] ++ lows 16 ((n - 1) / 4) (xM neg m v b n).toNat) ++ [112] ++ expT (xE neg m v b n x - 1)
theorem xM_bits {neg : Bool} {m v : Int} {b n : Nat} (hb : Bits v b) (h0 : 0 < v) (hn : 1 ≤ n) : 2 ^ (n - 1) ≤ xM neg m v b n ∧ xM neg m v b n < 2 ^ n := by
  have hb1 := hb.pos h0
  obtain ⟨_, h2, h3⟩ := hb
  have h3 : (2 : Int) ^ (b - 1) ≤ v := by rcases h3 with h3 | h3; omega; exact h3
  unfold xM
  split
  · next h =>
    have e1 : (2 : Int) ^ (n - 1) = 2 ^ (b - 1) * 2 ^ (n - b) := by rw [← Int.pow_add]; congr 1; omega
    have e2 : (2 : Int) ^ n = 2 ^ b * 2 ^ (n - b) := by rw [← Int.pow_add]; congr 1; omega
    rw [e1, e2]
    exact ⟨Int.mul_le_mul_of_nonneg_right h3 (Int.le_of_lt (tp _)), Int.mul_lt_mul_of_pos_right h2 (tp _)⟩
  · next h =>
    have h1 : v / 2 ^ (b - n) < 2 ^ n := by
      apply Int.ediv_lt_of_lt_mul (tp _)
      rw [← Int.pow_add, show n + (b - n) = b by omega]
      exact h2
    have h4 : 2 ^ (n - 1) ≤ v / 2 ^ (b - n) := by
      apply Int.le_ediv_of_mul_le (tp _)
      rw [← Int.pow_add, show n - 1 + (b - n) = b - 1 by omega]
      exact h3
    have h5 : (2 : Int) ^ n = 2 * 2 ^ (n - 1) := by
      obtain ⟨q, rfl⟩ : ∃ q, n = q + 1 := ⟨n - 1, by omega⟩
      rw [Nat.add_sub_cancel, Int.pow_succ, Int.mul_comm]
    have h6 := tp (n - 1)
    unfold rmant rq
    split <;> split <;> omega
/-- What Set leaves is the mantissa of n bits. -/
theorem xnum {neg : Bool} {m v x E2 : Int} {b n p : Nat} {L L2 : List Int} (hbp : b ≤ p) (hev : ev BW L = v * 2 ^ (64 * L.length - b)) (hb64 : b ≤ 64 * L.length) (hb : Bits v b) (h0 : 0 < v) (hn : 1 ≤ n)
    (h : ((p ≤ n ∨ 64 * L.length ≤ n) ∧ L2 = L ∧ E2 = (b : Int) + x) ∨ (n < p ∧ n < 64 * L.length ∧ L2.length = (n + 63) / 64 ∧ E2 = rexp n (rq neg m (ev BW L) (64 * L.length - n) false) ((b : Int) + x) ∧ ev BW L2 = rmant n (rq neg m (ev BW L) (64 * L.length - n) false) * 2 ^ (64 * L2.length - n))) :
    E2 = xE neg m v b n x ∧ ev BW L2 * 2 ^ (n - 64 * L2.length) / 2 ^ (64 * L2.length - n) = xM neg m v b n := by
  rcases h with ⟨h1, rfl, rfl⟩ | ⟨h1, h2, h3, rfl, h5⟩
  · have hbn : b ≤ n := by omega
    unfold xE xM
    rw [if_pos hbn, if_pos hbn, hev]
    refine ⟨rfl, ?_⟩
    rcases Nat.le_total n (64 * L2.length) with h | h
    · rw [show n - 64 * L2.length = 0 by omega, Int.pow_zero, Int.mul_one, show 64 * L2.length - b = (n - b) + (64 * L2.length - n) by omega, Int.pow_add, ← Int.mul_assoc]
      exact Int.mul_ediv_cancel _ (Int.ne_of_gt (tp _))
    · rw [show 64 * L2.length - n = 0 by omega, Int.pow_zero, Int.ediv_one, Int.mul_assoc, ← Int.pow_add]
      congr 2
      omega
  · have hle : n ≤ 64 * L2.length := by omega
    rw [h5, show n - 64 * L2.length = 0 by omega, Int.pow_zero, Int.mul_one, Int.mul_ediv_cancel _ (Int.ne_of_gt (tp _)), hev]
    unfold xE xM
    split
    · next hbn =>
      have e1 : v * 2 ^ (64 * L.length - b) = v * 2 ^ (n - b) * 2 ^ (64 * L.length - n) := by
        rw [Int.mul_assoc, ← Int.pow_add]
        congr 2
        omega
      have e2 := rq_exact neg m (v * 2 ^ (64 * L.length - b)) (64 * L.length - n) (by rw [e1]; exact Int.mul_emod_left _ _)
      have e3 : v * 2 ^ (n - b) < 2 ^ n := by
        have := (xM_bits (neg := neg) (m := m) hb h0 hn).2
        unfold xM at this
        rwa [if_pos hbn] at this
      rw [e2.1, e1, Int.mul_ediv_cancel _ (Int.ne_of_gt (tp _))]
      unfold rexp rmant
      rw [if_neg (by omega), if_neg (by omega)]
      exact ⟨rfl, rfl⟩
    · next hbn =>
      rw [show 64 * L.length - n = (b - n) + (64 * L.length - b) by omega, (rq_scale neg m v (b - n) (64 * L.length - b)).1]
      exact ⟨rfl, rfl⟩
/-- The figures of a mantissa of 4 k + 1 bits: a one, and k more. -/
theorem figs_one {M k : Nat} (h1 : 2 ^ (4 * k) ≤ M) (h2 : M < 2 ^ (4 * k + 1)) : figs 16 M = 49 :: lows 16 k M := by
  have e : (16 : Nat) ^ k = 2 ^ (4 * k) := by rw [show (16 : Nat) = 2 ^ 4 from rfl, ← Nat.pow_mul]
  have h3 : M < 16 ^ (k + 1) := by
    rw [Nat.pow_succ, e]
    rw [Nat.pow_succ] at h2
    omega
  rw [figs_low 16 (k + 1) M (by omega) (by omega) (by rw [Nat.add_sub_cancel, e]; exact h1) h3 (by omega), Nat.add_comm, lows_split]
  have h4 : M / 16 ^ k = 1 := by
    rw [e]
    rw [Nat.pow_succ] at h2
    apply Nat.div_eq_of_lt_le
    · omega
    · omega
  rw [h4]
  rfl
end Go.Proofs.YtfnknldbjckgoaaGreatDoor.Sp
end

/-! ## HexO -/
section
namespace Go.Proofs.YtfnknldbjckgoaaGreatDoor.Sp
open Go.RowKit Go.Proofs.YtfnknldbjckgoaaGreatDoorW.PrintWords Go.Proofs.YtfnknldbjckgoaaGreatDoorW.PrintLast Go.Proofs.YtfnknldbjckgoaaGreatDoorW.PrintMore Go.Proofs.YtfnknldbjckgoaaGreatDoor.Dig
set_option linter.unusedVariables false
theorem tz_ltb {v : Int} {b z : Nat} (ht : Tz v z) (hb : Bits v b) (h0 : 0 < v) : z < b := by
  rcases Nat.lt_or_ge z b with h | h
  · exact h
  · obtain ⟨q, hq⟩ := ht
    have h1 : (2 : Int) ^ b ≤ 2 ^ z := by
      rw [show z = b + (z - b) by omega, Int.pow_add]
      have h2 := tp (z - b)
      have h3 := tp b
      have h4 : (2 : Int) ^ b * 1 ≤ 2 ^ b * 2 ^ (z - b) := Int.mul_le_mul_of_nonneg_left (by omega) (Int.le_of_lt h3)
      omega
    have h5 : 0 < 2 * q + 1 := Int.pos_of_mul_pos_right (by rw [← hq]; exact h0) (tp z)
    have h6 : (2 : Int) ^ z * 1 ≤ 2 ^ z * (2 * q + 1) := Int.mul_le_mul_of_nonneg_left (by omega) (Int.le_of_lt (tp z))
    have := hb.2.1
    omega
theorem bits_odd {v : Int} {b n : Nat} (h : Bits v b) (hn : n < b) (h0 : 0 < v) : Bits (v / 2 ^ n) (b - n) := by
  obtain ⟨h1, h2, h3⟩ := h
  have h3 : (2 : Int) ^ (b - 1) ≤ v := by rcases h3 with h3 | h3; omega; exact h3
  refine ⟨Int.ediv_nonneg h1 (Int.le_of_lt (tp n)), ?_, .inr ?_⟩
  · apply Int.ediv_lt_of_lt_mul (tp _)
    rw [← Int.pow_add, show b - n + n = b by omega]
    exact h2
  · apply Int.le_ediv_of_mul_le (tp _)
    rw [← Int.pow_add, show b - n - 1 + n = b - 1 by omega]
    exact h3
/-- The odd part of a mantissa. -/
structure OddOf (v b z o : Nat) : Prop where
  tz : Tz (v : Int) z
  lt : z < b
  eq : (o : Int) = (v : Int) / 2 ^ z
  bits : Bits (o : Int) (b - z)
  val : v = o * 2 ^ z
  pos : 0 < o
theorem oddOf {v b : Nat} (hb : Bits (v : Int) b) (h0 : 0 < v) : ∃ z o, OddOf v b z o := by
  obtain ⟨z, hz⟩ := Tz.exists (show (0 : Int) < (v : Int) by omega)
  have hzb := tz_ltb hz hb (by omega)
  obtain ⟨o, ho⟩ := Int.eq_ofNat_of_zero_le (Int.ediv_nonneg (show (0 : Int) ≤ (v : Int) by omega) (Int.le_of_lt (tp z)))
  have hvo : v = o * 2 ^ z := by
    have h1 := hz.mod
    have h2 := Int.mul_ediv_add_emod (v : Int) (2 ^ z)
    rw [h1, ho, Int.add_zero, Int.mul_comm] at h2
    have h3 : ((o * 2 ^ z : Nat) : Int) = (v : Int) := by rw [Int.natCast_mul, Int.natCast_pow]; exact h2
    exact (Int.ofNat_inj.1 h3).symm
  refine ⟨z, o, hz, hzb, ho.symm, by rw [← ho]; exact bits_odd hb hzb (by omega), hvo, ?_⟩
  rcases Nat.eq_zero_or_pos o with h | h
  · rw [h, Nat.zero_mul] at hvo; omega
  · exact h
end Go.Proofs.YtfnknldbjckgoaaGreatDoor.Sp
end

/-! ## BufT -/
section
namespace Go.Proofs.YtfnknldbjckgoaaGreatDoor.Sp
open Go.RowKit Go.Proofs.YtfnknldbjckgoaaGreatDoorW.PrintWords Go.Proofs.YtfnknldbjckgoaaGreatDoorW.PrintLast Go.Proofs.YtfnknldbjckgoaaGreatDoorW.PrintMore Go.Proofs.YtfnknldbjckgoaaGreatDoor.Dig
set_option linter.unusedVariables false
set_option linter.unusedSimpArgs false
section
open Go.Lib
variable {P : Program} (w : World)
/-- Where a row lies behind an append of a string. -/
theorem append_where_str (base : Nat) (t u ty e : TypeId) (i : TypeInfo) (ht : P.underlying t = some (.slice e)) (hu : P.underlying u = some .string) (hi : P.info? e = some i) (hz : i.zero = some (.int .u8 0))
    (hsize : i.size = 1) (hby : i.bytes = 1) (v : Value) (n : Nat) (xs : List Value) (hown : w.ownsRow base e 1 v n xs) (s : ByteArray)
    (h63 : n + s.size ≤ maxLen) (hbytes : n + s.size ≤ 140737488355328) (hs0 : 0 < s.size) :
    ∃ v' w', (Builtin.append_ #[t, u] ty #[v, .string s]).run P w = .ok v' w' ∧ (v'.ownBlock = v.ownBlock ∨ v'.ownBlock = some w.heap.size) := by
  have hsmall : n + s.size ≤ 9223372036854775807 := by simp only [maxLen] at h63; omega
  have hxl : xs.length = n := by simpa using hown.1
  rcases hown.2 with ⟨rfl, rfl⟩ | ⟨g, cap, cur, rfl, hbg, hg, hnc, hcm, hcs, htake⟩
  · have hr := run_append_nil_string (P := P) w t u ty e i (.int .u8 0) ht hu hi hz s (by omega) (by omega) (by rw [hby]; omega)
    exact ⟨_, _, hr, .inr rfl⟩
  · by_cases hroom : n + s.size ≤ cap
    · have hcs' : cur.size = cap := by simpa using hcs
      have hr := run_append_room_string (P := P) w t u ty e i ht hu hi hsize g n cap cur hg s hroom (by omega)
      exact ⟨_, _, hr, .inl rfl⟩
    · have holds : ∀ j u, xs[j]? = some u → w.cell? ((⟨g, 0, none⟩ : Addr).add j) = some u := hown.cells (g := g) rfl
      have hr := run_append_grow_string (P := P) w t u ty e i (.int .u8 0) ht hu hi hz ⟨g, 0, none⟩ n cap xs (by rw [hsize]; simpa using hxl) holds s (by omega) (by omega) (by rw [hby]; exact growslice_fits (by omega) (by omega))
      exact ⟨_, _, hr, .inr rfl⟩
end
theorem bs_str {w : World} {ops : Array Oper} {rest : List Oper} {o : Oper} {a : Act} {Q : Exit → Act → World → Prop} (hgd : o.guard = none) (sl x : Operand) (u : TypeId)
    (ho : o.op = .call { callee := .builtin .append, args := #[sl, x], argTypes := #[43, u] }) (hu : Tryz.prog.underlying u = some .string)
    (S : List (Nat × Obj)) (W0 : World) (v : Value) (l : List Int) (hs : a.eval sl = v) (h : Bs S W0 w v l) (s : ByteArray) (hx : a.eval x = .string s) (hl : l.length + s.size ≤ 100000000000) (hs0 : 0 < s.size)
    (k : ∀ v' w', Bs S W0 w' v' (l ++ sbs s) → wpList Tryz.prog ops Q rest (a.put o.dst v') w') : wpList Tryz.prog ops Q (o :: rest) a w := by
  obtain ⟨i, hi, hz, hsz, hby⟩ := info_parts infoU8
  obtain ⟨v', w', hr, h2, h3, _⟩ := Go.Lib.run_append_own_string (P := Tryz.prog) w W0.heap.size 43 u o.type 5 i Tryz.underlying43 hu hi hz hsz hby v l.length _ h.bu.own s (by unfold maxLen; omega) (by omega) h.bu.bel.size
  obtain ⟨v2, w2, hr2, hwh⟩ := append_where_str (P := Tryz.prog) w W0.heap.size 43 u o.type 5 i Tryz.underlying43 hu hi hz hsz hby v l.length _ h.bu.own s (by unfold maxLen; omega) (by omega) hs0
  rw [hr] at hr2
  injection hr2 with e1 e2
  subst e1 e2
  refine wpList_plain hgd fun K hK => ?_
  unfold Oper.wp execOp
  simp only [ho, resolve, invoke, builtin, Sem.run_bind, Sem.run_pure, Result.andThen_ok, List.map_toArray, List.map_cons, List.map_nil, hs, hx, hr]
  refine hK _ _ (k v' w' (bs_grown h ⟨?_, grown_below h.bu h3⟩ h3 hwh))
  rw [List.length_append, nums_append, sbs_len, ← sbs_cells]
  exact h2
end Go.Proofs.YtfnknldbjckgoaaGreatDoor.Sp
end
