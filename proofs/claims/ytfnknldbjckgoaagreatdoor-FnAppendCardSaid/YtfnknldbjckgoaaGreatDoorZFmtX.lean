/-
  CONTRACT of fmtX at a finite Float.
-/
import Derived.Test.YtfnknldbjckgoaaGreatDoorZUtoaH
import Derived.Test.YtfnknldbjckgoaaGreatDoorZGtxb
import Derived.Test.YtfnknldbjckgoaaGreatDoorZGuto
import Derived.Test.YtfnknldbjckgoaaGreatDoorZGx1
import Derived.Deep.CutBlock
import Derived.Deep.LoopGhost
namespace Go.Proofs.YtfnknldbjckgoaaGreatDoor.Sp
open Go.RowKit Go.Proofs.YtfnknldbjckgoaaGreatDoorW.PrintWords Go.Proofs.YtfnknldbjckgoaaGreatDoorW.PrintLast Go.Proofs.YtfnknldbjckgoaaGreatDoorW.PrintMore Go.Proofs.YtfnknldbjckgoaaGreatDoor.Dig
set_option linter.unusedVariables false
set_option linter.unusedSimpArgs false
theorem setPrecX_c (g n : Nat) (w : World) (h : hp w g = some (.cells #[.int .u32 0, .int .u8 0, .int .i8 0, .int .u8 0, .bool false, .slice none 0 0, .int .i32 0] 83 (0, 0))) (hn : 1 ≤ n ∧ n ≤ 4000000) :
    Calls Tryz.prog 73 #[.pointer (some ⟨g, 0, none⟩), .int .u64 (n : Int)] w fun e w' => e = .returned (.pointer (some ⟨g, 0, none⟩)) ∧ hp w' g = some (.cells #[.int .u32 n, .int .u8 0, .int .i8 0, .int .u8 0, .bool false, .slice none 0 0, .int .i32 0] 83 (0, 0)) ∧ Kept (On g) w w' := by
  obtain ⟨c0, c1, c2, c3, c4, c5, c6, f0, f1, f2, f3, f4, f5, f6⟩ := blk7 h
  have lg := hp_lt h
  have hpd : decide ((4294967295 : Int) < (n : Int)) = false := decide_eq_false (by omega)
  have hpw : IntKind.u32.wrap (n : Int) = (n : Int) := by rw [IntKind.wrap_u32']; omega
  have hpb : ((n : Int) == 0) = false := by rw [beq_eq_false_iff_ne]; omega
  have H := Aside0.mk h
  clear h
  go_enter Tryz.func73, Tryz.ntmps73
  go_wp2_with (fail)
  go_ret
  exact ⟨rfl, by rw [hp_here _ _ _ _ _ rfl, hp_here _ _ _ _ _ rfl, H.out]; rfl, ((Kept.refl (On g) w).setCell (p := ⟨g, 2, none⟩) (.inl rfl) _).setCell (p := ⟨g, 0, none⟩) (.inl rfl) _⟩
theorem setModeX_c (g n : Nat) (m : Int) (w : World) (h : hp w g = some (.cells #[.int .u32 n, .int .u8 0, .int .i8 0, .int .u8 0, .bool false, .slice none 0 0, .int .i32 0] 83 (0, 0))) :
    Calls Tryz.prog 41 #[.pointer (some ⟨g, 0, none⟩), .int .u8 m] w fun e w' => e = .returned (.pointer (some ⟨g, 0, none⟩)) ∧ hp w' g = some (.cells #[.int .u32 n, .int .u8 m, .int .i8 0, .int .u8 0, .bool false, .slice none 0 0, .int .i32 0] 83 (0, 0)) ∧ Kept (On g) w w' := by
  obtain ⟨c0, c1, c2, c3, c4, c5, c6, f0, f1, f2, f3, f4, f5, f6⟩ := blk7 h
  have lg := hp_lt h
  have H := Aside0.mk h
  clear h
  go_enter Tryz.func41, Tryz.ntmps41
  go_wp2_with (fail)
  go_ret
  exact ⟨rfl, by rw [hp_here _ _ _ _ _ rfl, hp_here _ _ _ _ _ rfl, H.out]; rfl, ((Kept.refl (On g) w).setCell (p := ⟨g, 1, none⟩) (.inl rfl) _).setCell (p := ⟨g, 2, none⟩) (.inl rfl) _⟩
theorem Tz.mul {v : Int} {z : Nat} (h : Tz v z) (s : Nat) : Tz (v * 2 ^ s) (z + s) := by
  obtain ⟨q, rfl⟩ := h
  exact ⟨q, by rw [Int.pow_add, Int.mul_assoc, Int.mul_assoc, Int.mul_comm (2 * q + 1)]⟩
set_option exponentiation.threshold 2000 in
set_option maxHeartbeats 6400000 in
set_option maxRecDepth 100000 in
theorem fmtX_c (g p vN b n k1 : Nat) (m x K : Int) (neg : Bool) (w0 W0 w : World) (v : Value) (l : List Int) (h : Own w0 W0 g p m neg (vN : Int) x b) (hv0 : 0 < vN) (hbits : Bits (vN : Int) b) (hbp : b ≤ p) (hp9 : p ≤ 448) (hm : 0 ≤ m ∧ m < 6) (hx : -1000000 ≤ x ∧ x ≤ 1000000) (hn : n = 4 * k1 + 1) (hk1 : k1 ≤ 110) (hK : (K < 0 ∧ ∃ z, Tz (vN : Int) z ∧ z < b ∧ k1 = (b - z + 2) / 4) ∨ K = (k1 : Int)) (hb : Bu W0 w v l) (hl : l.length ≤ 1000000) (hT : Pw W0) (hTb : Tb W0) :
    Calls Tryz.prog 50 #[.pointer (some ⟨g, 0, none⟩), v, .int .i64 K] w (BuPost W0 (l ++ fmtXT neg m vN b n x)) := by
  obtain ⟨mb, L, R, c, hg0, hmb0, hRc, hF, hC, hev, h64, hb64⟩ := h
  have hl0 : 0 < L.length := hC.pos
  have hl8 : L.length ≤ 8 := by omega
  have hb1 := hbits.pos (by omega)
  have hXB := xM_bits (neg := neg) (m := m) (n := n) hbits (by omega) (by omega)
  obtain ⟨M, hM⟩ := Int.eq_ofNat_of_zero_le (show 0 ≤ xM neg m vN b n from Int.le_trans (Int.le_of_lt (tp (n - 1))) hXB.1)
  obtain ⟨XE, hXE⟩ : ∃ XE, XE = xE neg m vN b n x := ⟨_, rfl⟩
  have hXEb : -2000000 ≤ XE ∧ XE ≤ 2000000 := by
    rw [hXE]
    unfold xE rexp
    split
    · omega
    · split <;> omega
  have HNUM : Aside0 (∀ L2 E2, (((p ≤ n ∨ 64 * L.length ≤ n) ∧ L2 = L ∧ E2 = (b : Int) + x) ∨ (n < p ∧ n < 64 * L.length ∧ L2.length = (n + 63) / 64 ∧ E2 = rexp n (rq neg m (ev BW L) (64 * L.length - n) false) ((b : Int) + x) ∧ ev BW L2 = rmant n (rq neg m (ev BW L) (64 * L.length - n) false) * 2 ^ (64 * L2.length - n))) → E2 = XE ∧ ev BW L2 * 2 ^ (n - 64 * L2.length) / 2 ^ (64 * L2.length - n) = (M : Int) ∧ L2.length ≤ 8) := ⟨fun L2 E2 h => by
    have h2 := xnum hbp hev hb64 hbits (by omega) (by omega) h
    refine ⟨h2.1.trans hXE.symm, h2.2.trans hM, ?_⟩
    rcases h with ⟨_, h3, _⟩ | ⟨_, _, h3, _⟩
    · rw [h3]; exact hl8
    · omega⟩
  have hMB : 2 ^ (4 * k1) ≤ M ∧ M < 2 ^ (4 * k1 + 1) := by
    rw [hM, hn, Nat.add_sub_cancel] at hXB
    have e1 : (2 : Int) ^ (4 * k1) = ((2 ^ (4 * k1) : Nat) : Int) := by rw [Int.natCast_pow]; rfl
    have e2 : (2 : Int) ^ (4 * k1 + 1) = ((2 ^ (4 * k1 + 1) : Nat) : Int) := by rw [Int.natCast_pow]; rfl
    rw [e1, e2] at hXB
    exact ⟨Int.ofNat_le.1 hXB.1, Int.ofNat_lt.1 hXB.2⟩
  have hMp : 0 < M := Nat.lt_of_lt_of_le (Nat.two_pow_pos _) hMB.1
  have hMF : Fit M := by
    have h1 : (2 : Nat) ^ (4 * k1 + 1) ≤ 2 ^ 512 := Nat.pow_le_pow_right (by omega) (by omega)
    exact Nat.lt_of_lt_of_le (Nat.lt_of_lt_of_le hMB.2 h1) (by decide +kernel)
  have HFG : Aside0 (figs 16 M = 49 :: lows 16 k1 M) := ⟨figs_one hMB.1 hMB.2⟩
  have HMF : Aside0 (0 < M ∧ Fit M) := ⟨hMp, hMF⟩
  obtain ⟨T1, hT1⟩ : ∃ T1, T1 = lows 16 k1 M := ⟨_, rfl⟩
  have HT1L : Aside0 (T1.length = k1) := ⟨by rw [hT1, lows_len]⟩
  rw [← hT1] at HFG
  obtain ⟨TX, hTX⟩ : ∃ TX, TX = fmtXT neg m vN b n x := ⟨_, rfl⟩
  have HTX : Aside0 (TX = [48, 120, 49] ++ (if n = 1 then [] else [46] ++ T1) ++ [112] ++ expT (XE - 1)) := ⟨by
    rw [hTX, hT1, hXE]
    unfold fmtXT
    rw [hM, hn, show (4 * k1 + 1 - 1) / 4 = k1 by omega]
    rfl⟩
  rw [← hTX]
  have HFA : Aside0 (∀ W, Below W0.heap.size W0 W → Flt W g mb p m 0 1 neg L.length c ((b : Int) + x) (L ++ R)) := ⟨fun W hW => hF.below hW⟩
  have HTA : Aside0 (∀ W, Below W0.heap.size W0 W → Tb W) := ⟨fun W hW => hTb.kept (Kept.of_below (S := fun _ => False) hW) (fun h => h)⟩
  have HPW : Aside0 (Pw W0) := ⟨hT⟩
  have HCN : Aside0 (Canon p L) := ⟨hC⟩
  have HB := Aside0.mk hb
  have HN := Aside0.mk hl
  have hn9 : 1 ≤ n ∧ n ≤ 441 := by omega
  have hg9 := hp_lt hF.flt
  have HEB : Aside0 (-2147483648 ≤ (b : Int) + x ∧ (b : Int) + x < 2147483647) := ⟨by omega⟩
  have hFw := HFA.out w hb.bel
  obtain ⟨c0, c1, c2, c3, c4, c5, c6, f0, f1, f2, f3, f4, f5, f6⟩ := blk7 hFw.flt
  have lg := hp_lt hFw.flt
  obtain ⟨A0, n0, k0, rfl⟩ : ∃ A n k, v = .slice A n k := by
    obtain ⟨A, k, h1, _⟩ := hb.slice
    exact ⟨A, _, k, h1⟩
  have HK := Aside0.mk hK
  have HMIN : Aside0 (∀ z, Tz (vN : Int) z → z < b → Calls Tryz.prog 72 #[.pointer (some ⟨g, 0, none⟩)] w fun e w' => e = .returned (.int .u64 ((b - z : Nat) : Int)) ∧ Kept (fun _ => False) w w') := ⟨fun z hz hzb => by
    have h1 := hz.mul (64 * L.length - b)
    rw [← hev] at h1
    have h2 := minPrec_c g mb p m 0 neg c _ L R _ w hFw hC.V_pos h1 (HTA.out w hb.bel) (by omega) (by omega)
    rw [show 64 * L.length - (z + (64 * L.length - b)) = b - z by omega] at h2
    exact h2⟩
  have HBB : Aside0 (b ≤ 448) := ⟨by omega⟩
  have HNK := Aside0.mk hn
  clear hn
  clear hl hF hC hev hT hTb hb hFw hTX hbits hv0 h64 hb64 hT1 hMp hMF hMB hXB hM hXE hK hg0 hmb0 hRc
  go_enter Tryz.func50, Tryz.ntmps50
  go_upto_if 45 with (fail)
  go_cut [8] (fun v8 wx => v8 = .int .u64 (n : Int) ∧ Aside0 (Below w.heap.size w wx))
  case first => as_aux_lemma =>
    rcases HK.out with ⟨hK0, z, hz, hzb, hkz⟩ | rfl
    · obtain ⟨q, hq⟩ : ∃ q, q = b - z := ⟨_, rfl⟩
      have HMC := Aside0.mk (HMIN.out z hz hzb)
      rw [← hq] at HMC hkz
      have hq9 : 1 ≤ q ∧ q ≤ 448 := by have := HBB.out; omega
      have e1 : IntKind.u64.wrap ((q : Int) - 1) = (q : Int) - 1 := by rw [IntKind.wrap_u64]; omega
      have e2 : IntKind.u64.wrap ((q : Int) - 1 + 3) = (q : Int) + 2 := by rw [IntKind.wrap_u64]; omega
      have e3 : IntKind.u64.wrap (((q : Int) + 2).tdiv 4) = (k1 : Int) := by rw [Int.tdiv_eq_ediv_of_nonneg (by omega), IntKind.wrap_u64]; omega
      have e4 : IntKind.u64.wrap ((k1 : Int) * 4) = 4 * (k1 : Int) := by rw [IntKind.wrap_u64]; omega
      have e5 : IntKind.u64.wrap (1 + 4 * (k1 : Int)) = (n : Int) := by have := HNK.out; rw [IntKind.wrap_u64]; omega
      clear hq hkz hz
      go_wp2_with (go_at_call 72; refine HMC.out.mono ?_; rintro e w1 ⟨rfl, hk⟩; have HK1 := Aside0.mk hk; clear hk)
      go_meet
      case rel => exact ⟨rfl, ⟨HK1.out.below (fun i h => h.elim) (Nat.le_refl _)⟩⟩
    · have hk0 : decide ((k1 : Int) < 0) = false := decide_eq_false (by omega)
      have hk0' : ¬ (k1 : Int) < 0 := by omega
      have e0 : IntKind.u64.wrap (k1 : Int) = (k1 : Int) := by rw [IntKind.wrap_u64]; omega
      have e4 : IntKind.u64.wrap (4 * (k1 : Int)) = 4 * (k1 : Int) := by rw [IntKind.wrap_u64]; omega
      have e5 : IntKind.u64.wrap (1 + 4 * (k1 : Int)) = (n : Int) := by have := HNK.out; rw [IntKind.wrap_u64]; omega
      go_wp2_with (fail)
      go_meet
      case rel => exact ⟨rfl, ⟨Below.refl _ _⟩⟩
  case rest =>
    obtain ⟨rfl, HBW⟩ := hcut
    obtain ⟨w3, hw3⟩ : ∃ w3, w3 = wc := ⟨_, rfl⟩
    rw [← hw3] at HBW ⊢
    clear hw3 HMIN HK c0 c1 c2 c3 c4 c5 c6 f0 f1 f2 f3 f4 f5 f6 lg
    have HB3 := Aside0.mk (HB.out.below HBW.out)
    clear HB HBW
    have hsz3 : W0.heap.size ≤ w3.heap.size := HB3.out.bel.size
    obtain ⟨c0, c1, c2, c3, c4, c5, c6, f0, f1, f2, f3, f4, f5, f6⟩ := blk7 (HFA.out w3 HB3.out.bel).flt
    have lg := hp_lt (HFA.out w3 HB3.out.bel).flt
    have hne3 : w3.heap.size ≠ g := by omega
    have hgm : g ≠ mb := (HFA.out w3 HB3.out.bel).ne
    go_wp2_with (fail)
    refine start_ (n := 11) (S := fun w' => w'.cell? ⟨g, 1, none⟩ = some (.int .u8 m)) (ds := []) #[false, false, false, false, false, false, false, false, false, false, false] (by kernel_rfl) rfl rfl ((by go_simp)) (fun hHeld => ?_)
    refine pure_ (i := 1) (N := some 58) (v := ?_) (a' := ?_) #[false, true, false, false, false, false, false, false, false, false, false] rfl rfl (by kernel_rfl) (fun _ _ _ h => h) (Or.inl ⟨by rfl, ?_⟩) ?_ ?_
    rotate_left
    · intro w'
      go_simp
      with_reducible rfl
    rotate_left
    · simp only [Act.put, List.setIfInBounds_toArray, List.set_cons_zero, List.set_cons_succ, i64_w, i32_w]
      rfl
    refine pure_ (i := 3) (N := some 60) (v := ?_) (a' := ?_) #[false, true, false, true, false, false, false, false, false, false, false] rfl rfl (by kernel_rfl) (fun _ _ _ h => h) (Or.inl ⟨by rfl, ?_⟩) ?_ ?_
    rotate_left
    · intro w'
      go_simp
      with_reducible rfl
    rotate_left
    · simp only [Act.put, List.setIfInBounds_toArray, List.set_cons_zero, List.set_cons_succ, i64_w, i32_w]
      rfl
    refine pure_ (i := 4) (N := some 61) (v := ?_) (a' := ?_) #[false, true, false, true, true, false, false, false, false, false, false] rfl rfl (by kernel_rfl) (fun _ _ _ h => h) (Or.inl ⟨by rfl, ?_⟩) ?_ ?_
    rotate_left
    · intro w'
      go_simp
      with_reducible rfl
    rotate_left
    · simp only [Act.put, List.setIfInBounds_toArray, List.set_cons_zero, List.set_cons_succ, i64_w, i32_w]
      rfl
    refine pure_ (i := 5) (N := some 62) (v := ?_) (a' := ?_) #[false, true, false, true, true, true, false, false, false, false, false] rfl rfl (by kernel_rfl) (fun _ _ _ h => h) (Or.inl ⟨by rfl, ?_⟩) ?_ ?_
    rotate_left
    · intro w'
      go_simp
      with_reducible rfl
    rotate_left
    · simp only [Act.put, List.setIfInBounds_toArray, List.set_cons_zero, List.set_cons_succ, i64_w, i32_w]
      rfl
    refine pure_ (i := 8) (N := some 65) (v := ?_) (a' := ?_) #[false, true, false, true, true, true, false, false, true, false, false] rfl rfl (by kernel_rfl) (fun _ _ _ h => h) (Or.inl ⟨by rfl, ?_⟩) ?_ ?_
    rotate_left
    · intro w'
      go_simp
      with_reducible rfl
    rotate_left
    · simp only [Act.put, List.setIfInBounds_toArray, List.set_cons_zero, List.set_cons_succ, i64_w, i32_w]
      rfl
    refine take_ (i := 6) (N := some 63) (v := ?_) (a' := ?_) #[false, true, false, true, true, true, true, false, true, false, false] rfl rfl (by kernel_rfl) (fun _ _ _ h => h) (Or.inl ⟨by rfl, ?_⟩) hHeld ?_ ?_
    rotate_left
    · intro w' s0
      go_simp
      with_reducible rfl
    rotate_left
    · simp only [Act.put, List.setIfInBounds_toArray, List.set_cons_zero, List.set_cons_succ, i64_w, i32_w]
      rfl
    refine one_ (i := 0) (N := some 57) #[true, true, false, true, true, true, true, false, true, false, false] rfl rfl (by kernel_rfl) (by decide) (fun K hK => ?_)
    refine value_ (w1 := ?_) (v := ?_) (by rfl) rfl ?_ ?_
    rotate_left 2
    · go_simp
      constructor
      · rfl
      · rfl
    have HBA : Aside0 (Below w3.heap.size w3 (w3.alloc (.cells #[.int .u32 0, .int .u8 0, .int .i8 0, .int .u8 0, .bool false, .slice none 0 0, .int .i32 0] 83)).drew) := ⟨below_drew1 (below_alloc (Below.refl _ _) _)⟩
    have KG := Aside0.mk (show hp (w3.alloc (.cells #[.int .u32 0, .int .u8 0, .int .i8 0, .int .u8 0, .bool false, .slice none 0 0, .int .i32 0] 83)).drew w3.heap.size = some (.cells #[.int .u32 0, .int .u8 0, .int .i8 0, .int .u8 0, .bool false, .slice none 0 0, .int .i32 0] 83 (0, 0)) from (hp_drew _ _).trans (hp_new _ _ _ rfl))
    have q1 := (blk7 (HFA.out _ (below_step HB3.out.bel HBA.out)).flt).2.1
    refine hK.out _ _ (q1) (fun hHeld => ?_)
    clear hK K
    refine norm_ (a' := ?_) ?_ ?_
    rotate_left
    · show Act.put _ (some 57) _ = _
      simp only [Act.put, List.setIfInBounds_toArray, List.set_cons_zero, List.set_cons_succ, i64_w, i32_w]
      rfl
    refine one_ (i := 2) (N := some 59) #[true, true, true, true, true, true, true, false, true, false, false] rfl rfl (by kernel_rfl) (by decide) (fun K hK => ?_)
    refine goes_ Tryz.func73 (by kernel_rfl) rfl #[.pointer (some ⟨w3.heap.size, 0, none⟩), .int .u64 (n : Int)] (by rfl) rfl rfl (by simp only [List.map_toArray, List.map_cons, List.map_nil]; rfl) ?_
    with_reducible refine (setPrecX_c w3.heap.size n _ KG.out (by omega)).mono ?_
    rintro e w4 ⟨rfl, hz4, hk4⟩
    refine ⟨_, rfl, ?_⟩
    have KG4 := Aside0.mk hz4
    have HB4 : Aside0 (Below w3.heap.size w3 w4) := ⟨HBA.out.trans (hk4.below (fun i hi => by have h : i = w3.heap.size := hi; omega) HBA.out.size)⟩
    have q1 := (blk7 (HFA.out _ (below_step HB3.out.bel HB4.out)).flt).2.1
    clear hz4 hk4
    refine hK.out _ _ (q1) (fun hHeld => ?_)
    clear hK K
    refine norm_ (a' := ?_) ?_ ?_
    rotate_left
    · show Act.put _ (some 59) _ = _
      simp only [Act.put, List.setIfInBounds_toArray, List.set_cons_zero, List.set_cons_succ, i64_w, i32_w]
      rfl
    refine one_ (i := 7) (N := some 64) #[true, true, true, true, true, true, true, true, true, false, false] rfl rfl (by kernel_rfl) (by decide) (fun K hK => ?_)
    refine goes_ Tryz.func41 (by kernel_rfl) rfl #[.pointer (some ⟨w3.heap.size, 0, none⟩), .int .u8 m] (by rfl) rfl rfl (by simp only [List.map_toArray, List.map_cons, List.map_nil]; rfl) ?_
    with_reducible refine (setModeX_c w3.heap.size n m _ KG4.out).mono ?_
    rintro e w5 ⟨rfl, hz5, hk5⟩
    refine ⟨_, rfl, ?_⟩
    have KG5 := Aside0.mk hz5
    have HB5 : Aside0 (Below w3.heap.size w3 w5) := ⟨HB4.out.trans (hk5.below (fun i hi => by have h : i = w3.heap.size := hi; omega) HB4.out.size)⟩
    have q1 := (blk7 (HFA.out _ (below_step HB3.out.bel HB5.out)).flt).2.1
    clear hz5 hk5
    refine hK.out _ _ (q1) (fun hHeld => ?_)
    clear hK K
    refine norm_ (a' := ?_) ?_ ?_
    rotate_left
    · show Act.put _ (some 64) _ = _
      simp only [Act.put, List.setIfInBounds_toArray, List.set_cons_zero, List.set_cons_succ, i64_w, i32_w]
      rfl
    refine one_ (i := 9) (N := some 66) #[true, true, true, true, true, true, true, true, true, true, false] rfl rfl (by kernel_rfl) (by decide) (fun K hK => ?_)
    refine goes_ Tryz.func74 (by kernel_rfl) rfl #[.pointer (some ⟨w3.heap.size, 0, none⟩), .pointer (some ⟨g, 0, none⟩)] (by rfl) rfl rfl (by simp only [List.map_toArray, List.map_cons, List.map_nil]; rfl) ?_
    with_reducible refine (setX_c w3.heap.size g mb p n m m 0 0 0 false neg 0 c ((b : Int) + x) L R _ KG5.out (HFA.out w5 (below_step HB3.out.bel HB5.out)) HCN.out hne3 (by omega) (by omega) hm HEB.out (by omega)).mono ?_
    rintro e w6 ⟨rfl, hk6, mx, cx, L2, R2, acc2, E2, hgx, hmx, hF2, hok2, hl2, hnum⟩
    refine ⟨_, rfl, ?_⟩
    have HF2 := Aside0.mk hF2
    have HB6 : Aside0 (Below w3.heap.size w3 w6) := ⟨HB5.out.trans (hk6.below (fun i hi => by have h : i = w3.heap.size := hi; omega) HB5.out.size)⟩
    have q1 := (blk7 (HFA.out _ (below_step HB3.out.bel HB6.out)).flt).2.1
    have HNM := Aside0.mk (HNUM.out L2 E2 hnum)
    have HGX := Aside0.mk hgx
    have HMX := Aside0.mk hmx
    have HOK2 := Aside0.mk hok2
    clear hk6 hF2 hnum hgx hmx hok2
    refine hK.out _ _ (q1) (fun hHeld => ?_)
    clear hK K
    refine norm_ (a' := ?_) ?_ ?_
    rotate_left
    · show Act.put _ (some 66) _ = _
      simp only [Act.put, List.setIfInBounds_toArray, List.set_cons_zero, List.set_cons_succ, i64_w, i32_w]
      rfl
    refine pure_ (i := 10) (N := some 0) (v := ?_) (a' := ?_) #[true, true, true, true, true, true, true, true, true, true, true] rfl rfl (by kernel_rfl) (fun _ _ _ h => h) (Or.inl ⟨by rfl, ?_⟩) ?_ ?_
    rotate_left
    · intro w'
      go_simp
      with_reducible rfl
    rotate_left
    · simp only [Act.put, List.setIfInBounds_toArray, List.set_cons_zero, List.set_cons_succ, i64_w, i32_w]
      rfl
    refine done_ (by kernel_rfl) ?_
    have HBU6 := Aside0.mk (HB3.out.below HB6.out)
    have HXB := Aside0.mk hXEb
    obtain ⟨hE2, hnum2, hl28⟩ := HNM.out
    rw [hE2] at HF2
    have HNUM2 := Aside0.mk hnum2
    obtain ⟨g1, hg1⟩ : ∃ g1, g1 = w3.heap.size := ⟨_, rfl⟩
    rw [← hg1] at HF2 ⊢
    clear hE2 hg1 hnum2 HNM HB4 HB5 HB6 HB3 HNUM HCN HEB q1 hHeld c0 c1 c2 c3 c4 c5 c6 f0 f1 f2 f3 f4 f5 f6 lg hne3 hgm hsz3 hx
    have HFB : Aside0 (∀ W, Below w6.heap.size w6 W → Flt W g1 mx n m acc2 1 neg L2.length cx XE (L2 ++ R2)) := ⟨fun W hW => HF2.out.below hW⟩
    obtain ⟨c0, c1, c2, c3, c4, c5, c6, f0, f1, f2, f3, f4, f5, f6⟩ := blk7 HF2.out.flt
    have lg := hp_lt HF2.out.flt
    obtain ⟨Q, hQ⟩ : ∃ Q, Q = 64 * L2.length := ⟨_, rfl⟩
    have HQL := Aside0.mk hQ
    have hQi : (L2.length : Int) * 64 = (Q : Int) := by omega
    have hQi' : 64 * (L2.length : Int) = (Q : Int) := by omega
    have hlw : IntKind.u64.wrap (L2.length : Int) = (L2.length : Int) := by rw [IntKind.wrap_u64]; omega
    have hQw : IntKind.u64.wrap (Q : Int) = (Q : Int) := by rw [IntKind.wrap_u64]; omega
    have hQ9 : 64 ≤ Q ∧ Q ≤ 512 := by omega
    have hrow : Kd.C (Kd.int .u64) w6 (some ⟨mx, 0, none⟩) L2.length L2 := by
      have := HF2.out.C
      rwa [List.take_left' rfl] at this
    have HROW := Aside0.mk hrow
    have hlcx := HF2.out.lec
    have hmxl := hp_lt HF2.out.mant
    rw [← hQ] at HNUM2
    clear hQ hrow
    go_upto_block 2 with (fail)
    go_cut [9] (fun v9 wx => Aside0 (Wd wx v9 (M : Int)) ∧ Aside0 (Below w6.heap.size w6 wx))
    case first => as_aux_lemma =>
      rcases Nat.lt_trichotomy Q n with hlt | heq | hgt
      · obtain ⟨t, ht⟩ : ∃ t, t = n - Q := ⟨_, rfl⟩
        have hti : (n : Int) - (Q : Int) = (t : Int) := by omega
        have htw : IntKind.u64.wrap (t : Int) = (t : Int) := by rw [IntKind.wrap_u64]; omega
        have hrd : Rd w6 (fun _ => False) (.slice none 0 0) (.slice (some ⟨mx, 0, none⟩) L2.length cx) L2 := ⟨mx, 0, cx, rfl, hlcx, fun j hj => by have := C_at HROW.out j hj; rwa [add_spot] at this, HOK2.out, hmxl, .inl (fun h => h)⟩
        have HSH := Aside0.mk (lsh_c (.slice none 0 0) (.slice (some ⟨mx, 0, none⟩) L2.length cx) (fun _ => False) L2 t w6 (.inl rfl) hrd hl2 (by omega) (by omega) (by omega))
        have HVM : Aside0 (ev BW L2 * 2 ^ t = (M : Int)) := ⟨by
          have h := HNUM2.out
          rw [← ht, show Q - n = 0 by omega, Int.pow_zero, Int.ediv_one] at h
          exact h⟩
        clear hrd ht
        go_wp2_with (go_at_call 67; refine HSH.out.mono ?_; rintro e w7 ⟨q, rfl, hn, hk⟩; have HN := Aside0.mk hn; have HK := Aside0.mk hk; clear hn hk)
        go_meet
        case rel => exact ⟨⟨by rw [← HVM.out]; exact HN.out.wd⟩, ⟨HK.out.below (fun i h => h.elim) (Nat.le_refl _)⟩⟩
      · exact absurd heq (by have := HNK.out; have := HQL.out; omega)
      · obtain ⟨t, ht⟩ : ∃ t, t = Q - n := ⟨_, rfl⟩
        have hti : (Q : Int) - (n : Int) = (t : Int) := by omega
        have htw : IntKind.u64.wrap (t : Int) = (t : Int) := by rw [IntKind.wrap_u64]; omega
        have HSH := Aside0.mk (rsh_nil_c mx cx t L2 w6 HROW.out hlcx HOK2.out (by omega) (by have := HQL.out; omega) (by omega) hmxl)
        have HVM : Aside0 (ev BW L2 / 2 ^ t = (M : Int)) := ⟨by
          have h := HNUM2.out
          rw [← ht, show n - Q = 0 by omega, Int.pow_zero, Int.mul_one] at h
          exact h⟩
        clear ht
        go_wp2_with (go_at_call 68; refine HSH.out.mono ?_; rintro e w7 ⟨A1, m1, c1', rfl, hn, hk⟩; have HN := Aside0.mk hn; have HK := Aside0.mk hk; clear hn hk)
        go_meet
        case rel => exact ⟨⟨by rw [← HVM.out]; exact HN.out⟩, HK⟩
    case rest =>
      obtain ⟨HW, HBC⟩ := hcut
      have HBU7 := Aside0.mk (HBU6.out.below HBC.out)
      have HF7 := Aside0.mk (HFB.out wc HBC.out)
      obtain ⟨w7, hw7⟩ : ∃ w7, w7 = wc := ⟨_, rfl⟩
      obtain ⟨v7, hv7⟩ : ∃ v7, v7 = u9 := ⟨_, rfl⟩
      rw [← hw7] at HBU7 HF7 HW
      rw [← hv7] at HW
      rw [← hw7, ← hv7]
      have HU := Aside0.mk (utoa16_c v7 M w7 HW.out HMF.out.1 HMF.out.2 (HTA.out w7 HBU7.out.bel))
      rw [HFG.out] at HU
      clear hw7 hv7 HBC HFB HF2 HROW HNUM2 HQL hQi hQi' hlw hQw hQ9 hlcx hmxl c0 c1 c2 c3 c4 c5 c6 f0 f1 f2 f3 f4 f5 f6 lg HBU6 HW
      obtain ⟨c0, c1, c2, c3, c4, c5, c6, f0, f1, f2, f3, f4, f5, f6⟩ := blk7 HF7.out.flt
      have lg := hp_lt HF7.out.flt
      obtain ⟨Y, hY⟩ : ∃ Y, Y = XE - 1 := ⟨_, rfl⟩
      have hY1 : XE - 1 = Y := hY.symm
      have hXw : IntKind.i64.wrap XE = XE := IntWalk.i64_in _ (by omega)
      have hYw : IntKind.i64.wrap Y = Y := IntWalk.i64_in _ (by omega)
      have hY9 : -3000000 ≤ Y ∧ Y ≤ 3000000 := by omega
      rw [hY1] at HTX
      clear hY
      obtain ⟨l1, hl1⟩ : ∃ l1, l1 = l ++ [48, 120, 49] := ⟨_, rfl⟩
      obtain ⟨lB, hlB⟩ : ∃ lB, lB = l1 ++ (if n = 1 then [] else [46] ++ T1) := ⟨_, rfl⟩
      obtain ⟨lC, hlC⟩ : ∃ lC, lC = lB ++ [112] := ⟨_, rfl⟩
      have HL1 := Aside0.mk hl1
      have HLB := Aside0.mk hlB
      have HLC := Aside0.mk hlC
      have HN1 : Aside0 (l1.length ≤ 1000003) := ⟨by have := HN.out; rw [hl1, List.length_append]; simp only [List.length_cons, List.length_nil]; omega⟩
      have HNB : Aside0 (lB.length ≤ 1000120) := ⟨by
        have := HN1.out
        have := HT1L.out
        rw [hlB, List.length_append]
        split
        · simp only [List.length_nil]; omega
        · rw [List.length_append]; simp only [List.length_cons, List.length_nil]; omega⟩
      have HNC : Aside0 (lC.length ≤ 1000121) := ⟨by have := HNB.out; rw [hlC, List.length_append]; simp only [List.length_cons, List.length_nil]; omega⟩
      have HTX1 : Aside0 (l ++ TX = lC ++ expT Y) := ⟨by rw [HTX.out, hlC, hlB, hl1]; simp only [List.append_assoc]⟩
      clear hl1 hlB hlC
      have HOWN : Aside0 (∀ i, (Value.slice A0 n0 k0).ownBlock = some i → i < w7.heap.size) := ⟨fun i hi => (World.ownsRow.lt HBU7.out.own i hi).2⟩
      go_wp2_with (first | (go_at_call 69; refine HU.out.mono ?_; rintro e w8 ⟨g2, o2, Z2, c2', rfl, hbr, hdr, hoz, hlc2, hg2, hbl⟩; have HBS : Aside0 (Bs [(g2, .cells (nums .u8 Z2).toArray 5 (0, 0))] W0 w8 (.slice A0 n0 k0) l) := ⟨⟨HBU7.out.below hbl, fun p hp => by
        obtain rfl := List.mem_singleton.1 hp
        exact ⟨hbr, fun e => by have := HOWN.out g2 e; omega⟩⟩⟩; have HDR := Aside0.mk hdr; have HOZ := Aside0.mk hoz; have HLC2 := Aside0.mk hlc2; clear hbr hdr hoz hbl hg2 hlc2) | (with_reducible refine bs_str rfl _ _ 9 rfl Tryz.underlying9 [(g2, .cells (nums .u8 Z2).toArray 5 (0, 0))] W0 (.slice A0 n0 k0) l rfl ?h1 ⟨#[48, 120, 49]⟩ rfl ?h2 ?h3 ?h4) | fail)
      case h1 => exact HBS.out
      case h2 => exact Nat.le_trans (Nat.add_le_add_right HN.out _) (by decide)
      case h3 => decide
      case h4 =>
        intro v1 w9 hb1
        have HB1 : Aside0 (Bs [(g2, .cells (nums .u8 Z2).toArray 5 (0, 0))] W0 w9 v1 l1) := ⟨by rw [HL1.out]; exact hb1⟩
        clear hb1 c0 c1 c2 c3 c4 c5 c6 f0 f1 f2 f3 f4 f5 f6 lg
        go_upto_if 118 with (fail)
        go_cut [1] (fun v1 wx => Aside0 (Bu W0 wx v1 lB))
        case first =>
          by_cases hk0 : k1 = 0
          · have hT0 : T1 = [] := List.eq_nil_of_length_eq_zero (by rw [HT1L.out]; exact hk0)
            have HBX : Aside0 (Bu W0 w9 v1 lB) := ⟨by rw [HLB.out, if_pos (by have := HNK.out; omega), List.append_nil]; exact HB1.out.bu⟩
            subst hT0
            go_wp2_with (fail)
            go_meet
            case rel => exact HBX
          · have hTl : 0 < T1.length := by have := HT1L.out; omega
            have hTl1 : (1 : Int) < (T1.length : Int) + 1 := by omega
            have hTd : decide ((1 : Int) < (T1.length : Int) + 1) = true := decide_eq_true hTl1
            have hlc3 : T1.length + 1 ≤ c2' := HLC2.out
            have hTn : 1 ≤ T1.length + 1 := by omega
            obtain ⟨l2, hl2⟩ : ∃ l2, l2 = l1 ++ [46] := ⟨_, rfl⟩
            have HL2 := Aside0.mk hl2
            have HN2 : Aside0 (l2.length ≤ 1000004) := ⟨by have := HN1.out; rw [hl2, List.length_append]; simp only [List.length_cons, List.length_nil]; omega⟩
            have HLB2 : Aside0 (lB = l2 ++ T1) := ⟨by rw [HLB.out, if_neg (by have := HNK.out; omega), hl2]; simp only [List.append_assoc]⟩
            have HNT : Aside0 (l2.length + T1.length ≤ 100000000000) := ⟨by have := HN2.out; have := HT1L.out; omega⟩
            clear hl2
            go_wp2_with (with_reducible refine bs_byte rfl _ _ rfl [(g2, .cells (nums .u8 Z2).toArray 5 (0, 0))] W0 v1 l1 46 rfl ?j1 rfl ?j2 ?j3)
            case j1 => exact HB1.out
            case j2 => exact Nat.le_trans HN1.out (by decide)
            case j3 =>
              intro v2 w10 hb2
              have HB2 : Aside0 (Bs [(g2, .cells (nums .u8 Z2).toArray 5 (0, 0))] W0 w10 v2 l2) := ⟨by rw [HL2.out]; exact hb2⟩
              clear hb2
              have HCL : Aside0 (∀ j, j < T1.length → w10.cell? ((⟨g2, o2 + 1, none⟩ : Addr).add j) = some (.int .u8 (T1.getD j 0))) := ⟨fun j hj => by
                have h1 := up_cells (w' := w10) (g := g2) (HB2.out.blk (List.mem_singleton.2 rfl)) HDR.out HOZ.out (j + 1) (by simpa using hj)
                rw [add_spot] at h1 ⊢
                rw [show o2 + 1 + j = o2 + (j + 1) by omega]
                simpa using h1⟩
              go_wp2_with (with_reducible refine bu_row rfl _ _ rfl W0 v2 l2 T1 ⟨g2, o2 + 1, none⟩ (c2' - 1) rfl ?k1 ?k2 ?k3 ?k4 ?k5)
              case k1 => exact HB2.out.bu
              case k2 => rfl
              case k3 => exact HCL.out
              case k4 => exact HNT.out
              case k5 =>
                intro v3 w11 hb3
                have HB3 : Aside0 (Bu W0 w11 v3 lB) := ⟨by rw [HLB2.out]; exact hb3⟩
                clear hb3
                go_wp2_with (fail)
                go_meet
                case rel => exact HB3
        case rest =>
          have HBB := hcut
          obtain ⟨v2, hv2⟩ : ∃ v2, v2 = u1 := ⟨_, rfl⟩
          obtain ⟨w10, hw10⟩ : ∃ w10, w10 = wc := ⟨_, rfl⟩
          rw [← hv2, ← hw10] at HBB
          rw [← hv2, ← hw10]
          clear hv2 hw10 hcut HB1 HBS
          obtain ⟨sg, hsg⟩ : ∃ sg : Int, sg = if Y < 0 then 45 else 43 := ⟨_, rfl⟩
          obtain ⟨F, hF⟩ : ∃ F : Nat, F = Y.natAbs := ⟨_, rfl⟩
          obtain ⟨lD, hlD⟩ : ∃ lD, lD = lC ++ [sg] := ⟨_, rfl⟩
          have HLD := Aside0.mk hlD
          have HND : Aside0 (lD.length ≤ 1000122) := ⟨by have := HNC.out; rw [hlD, List.length_append]; simp only [List.length_cons, List.length_nil]; omega⟩
          have HTX2 : Aside0 (l ++ TX = lD ++ (if F < 10 then [48] else []) ++ itoaI (F : Int)) := ⟨by rw [HTX1.out, hlD, hsg, hF]; simp only [List.append_assoc]; rfl⟩
          clear hlD
          go_wp2_with (with_reducible refine bu_byte rfl _ _ rfl W0 v2 lB 112 rfl ?j1 rfl ?j2 ?j3)
          case j1 => exact HBB.out
          case j2 => exact Nat.le_trans HNB.out (by decide)
          case j3 =>
            intro v3 w11 hb3
            have HB3 : Aside0 (Bu W0 w11 v3 lC) := ⟨by rw [HLC.out]; exact hb3⟩
            clear hb3
            go_upto_if 130 with (fail)
            go_cut [1, 11] (fun v1 v11 wx => v11 = .int .i64 (F : Int) ∧ Aside0 (Bu W0 wx v1 lD))
            case first =>
              by_cases hneg : Y < 0
              · have hs : sg = 45 := by rw [hsg, if_pos hneg]
                have hFw : IntKind.i64.wrap (-Y) = (F : Int) := by rw [IntWalk.i64_in _ (by omega)]; omega
                have hFw2 : -Y = (F : Int) := by omega
                have hge : decide (0 ≤ Y) = false := decide_eq_false (by omega)
                have hge2 : ¬ 0 ≤ Y := by omega
                subst hs
                clear hsg hF
                go_wp2_with (with_reducible refine bu_byte rfl _ _ rfl W0 v3 lC 45 rfl ?m1 rfl ?m2 ?m3)
                case m1 => exact HB3.out
                case m2 => exact Nat.le_trans HNC.out (by decide)
                case m3 =>
                  intro v4 w12 hb4
                  have HB4 : Aside0 (Bu W0 w12 v4 lD) := ⟨by rw [HLD.out]; exact hb4⟩
                  clear hb4
                  go_wp2_with (fail)
                  go_meet
                  case rel => exact ⟨by first | rfl | exact congrArg (Value.int .i64) hFw2 | simp [hFw2], HB4⟩
              · have hs : sg = 43 := by rw [hsg, if_neg hneg]
                have HFW2 : Aside0 (Y = (F : Int)) := ⟨by omega⟩
                have hge2 : 0 ≤ Y := by omega
                have hge : decide (0 ≤ Y) = true := decide_eq_true hge2
                subst hs
                clear hsg hF
                go_wp2_with (with_reducible refine bu_byte rfl _ _ rfl W0 v3 lC 43 rfl ?m1 rfl ?m2 ?m3)
                case m1 => exact HB3.out
                case m2 => exact Nat.le_trans HNC.out (by decide)
                case m3 =>
                  intro v4 w12 hb4
                  have HB4 : Aside0 (Bu W0 w12 v4 lD) := ⟨by rw [HLD.out]; exact hb4⟩
                  clear hb4
                  go_wp2_with (fail)
                  go_meet
                  case rel => exact ⟨congrArg (Value.int .i64) HFW2.out, HB4⟩
            case rest =>
              obtain ⟨rfl, HB4⟩ := hcut
              obtain ⟨v4, hv4⟩ : ∃ v4, v4 = u1 := ⟨_, rfl⟩
              obtain ⟨w12, hw12⟩ : ∃ w12, w12 = wc := ⟨_, rfl⟩
              rw [← hv4, ← hw12] at HB4
              rw [← hv4, ← hw12]
              have hF9 : F ≤ 20000000 := by omega
              clear hv4 hw12 hsg hF HB3 HBB
              by_cases h10 : F < 10
              · have h10i : (F : Int) < 10 := by omega
                obtain ⟨le, hle⟩ : ∃ le, le = lD ++ [48] := ⟨_, rfl⟩
                have HLE := Aside0.mk hle
                have HNE : Aside0 (le.length ≤ 1000123) := ⟨by have := HND.out; rw [hle, List.length_append]; simp only [List.length_cons, List.length_nil]; omega⟩
                have HTX3 : Aside0 (l ++ TX = le ++ itoaI (F : Int)) := ⟨by rw [HTX2.out, if_pos h10, hle]⟩
                clear hle
                go_wp2_with (with_reducible refine bu_byte rfl _ _ rfl W0 v4 lD 48 rfl ?d1 rfl ?d2 ?d3)
                case d1 => exact HB4.out
                case d2 => exact Nat.le_trans HND.out (by decide)
                case d3 =>
                  intro ve w13 hb5
                  have HB5 : Aside0 (Bu W0 w13 ve le) := ⟨by rw [HLE.out]; exact hb5⟩
                  clear hb5
                  have HAI := Aside0.mk (appI_c W0 w13 ve le (F : Int) HB5.out HPW.out (by omega) (Nat.le_trans HNE.out (by decide)))
                  go_wp2_with (go_at_call 70; refine HAI.out.mono ?_; rintro e w14 ⟨v8, rfl, hb8⟩; have HB8 := Aside0.mk hb8; clear hb8)
                  go_ret
                  exact ⟨_, rfl, by rw [HTX3.out]; exact HB8.out⟩
              · have h10i : ¬ (F : Int) < 10 := by omega
                have HTX3 : Aside0 (l ++ TX = lD ++ itoaI (F : Int)) := ⟨by rw [HTX2.out, if_neg h10, List.append_nil]⟩
                have HAI := Aside0.mk (appI_c W0 w12 v4 lD (F : Int) HB4.out HPW.out (by omega) (Nat.le_trans HND.out (by decide)))
                go_wp2_with (go_at_call 70; refine HAI.out.mono ?_; rintro e w14 ⟨v8, rfl, hb8⟩; have HB8 := Aside0.mk hb8; clear hb8)
                go_ret
                exact ⟨_, rfl, by rw [HTX3.out]; exact HB8.out⟩
end Go.Proofs.YtfnknldbjckgoaaGreatDoor.Sp
