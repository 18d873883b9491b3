/-
  FnZeroText holds for every input.
-/
import Derived.Test.YtalfclpjkefldaaGreatDoorAppG
import Derived.Test.YtalfclpjkefldaaGreatDoorAppZ
import Derived.Test.YtalfclpjkefldaaGreatDoorTextOf
import Derived.Deep.LoopGhost
namespace Go.Proofs.YtalfclpjkefldaaGreatDoor.fnZeroText
open Go.RowKit Go.Proofs.YtalfclpjkefldaaGreatDoorW.PrintWords Go.Proofs.YtalfclpjkefldaaGreatDoorW.PrintLast Go.Proofs.YtalfclpjkefldaaGreatDoorW.PrintMore Go.Proofs.YtalfclpjkefldaaGreatDoor.Sp
set_option linter.unusedVariables false
set_option linter.unusedSimpArgs false
theorem strOfNums_append (l m : List Int) : strOfNums (l ++ m) = strOfNums l ++ strOfNums m := by
  apply ByteArray.ext
  rw [ByteArray.data_append]
  apply Array.toList_inj.1
  simp [strOfNums]
theorem strOfNums_size' (l : List Int) : (strOfNums l).size = l.length := by
  rw [← ByteArray.size_data]
  simp [strOfNums]
/-- The sign's text. -/
def sgT (neg : Bool) : List Int := if neg then [45] else []
set_option maxHeartbeats 1600000 in
set_option maxRecDepth 100000 in
theorem text0_c (ch k : Int) (neg : Bool) (T : List Int) (w : World) (hk : -100000 ≤ k ∧ k ≤ 100000)
    (HA0 : ∀ g W0 W (v : Value), Spc W g 10 0 0 neg → Bu W0 W v [] → g < W0.heap.size → Calls Tryz.prog 47 #[.pointer (some ⟨g, 0, none⟩), v, .int .u8 ch, .int .i64 k] W (BuPost W0 T)) :
    Calls Tryz.prog 15 #[.agg #[.int .u64 10, .int .i64 0, .int .i64 0, .bool neg, .slice none 0 0, .int .i64 0], .int .u8 ch, .int .i64 k] w fun e w' => e = .returned (.string (strOfNums T)) ∧ Below w.heap.size w w' := by
  have hu := Tryz.underlying25
  have HB0 := Aside0.mk (below_alloc (Below.refl w.heap.size w) (.cells #[.int .u64 10, .int .i64 0, .int .i64 0, .bool neg, .slice none 0 0, .int .i64 0] 25))
  have HA := Aside0.mk HA0
  clear HA0
  go_enter Tryz.func15, Tryz.ntmps15
  go_wp2_with (fail)
  refine (exact_spc 10 0 0 0 neg none 0 0 _ (.inl rfl) (by omega) (by omega)).mono ?_
  rintro e w1 ⟨g, hg, rfl, hs, hb1⟩
  have HB1 := Aside0.mk (below_step HB0.out hb1)
  have HT := Aside0.mk (text_of g 10 0 0 ch k neg T w1 hs hk (fun W v h1 h2 h3 => HA.out g w1 W v h1 h2 h3))
  clear hs hb1
  go_wp2_with (fail)
  refine HT.out.mono ?_
  rintro e w2 ⟨rfl, hb2⟩
  have HB2 := Aside0.mk (below_step HB1.out hb2)
  clear hb2 HT
  go_wp2_with (fail)
  go_ret
  exact ⟨rfl, HB2.out⟩

theorem app_e (k : Nat) (hk : k ≤ 1000) (neg : Bool) (g : Nat) (W0 W : World) (v : Value) (h : Spc W g 10 0 0 neg) (hb : Bu W0 W v []) (hg : g < W0.heap.size) : Calls Tryz.prog 47 #[.pointer (some ⟨g, 0, none⟩), v, .int .u8 101, .int .i64 (k : Int)] W (BuPost W0 (sgT neg ++ ([48] ++ zt k ++ [101, 43, 48, 48]))) := by
  cases neg with
  | true => exact app_e_true g 10 k 0 W0 W v [] h hb hg (by simp) (by omega)
  | false => exact app_e_false g 10 k 0 W0 W v [] h hb hg (by simp) (by omega)

theorem app_f (k : Nat) (hk : k ≤ 1000) (neg : Bool) (g : Nat) (W0 W : World) (v : Value) (h : Spc W g 10 0 0 neg) (hb : Bu W0 W v []) (hg : g < W0.heap.size) : Calls Tryz.prog 47 #[.pointer (some ⟨g, 0, none⟩), v, .int .u8 102, .int .i64 (k : Int)] W (BuPost W0 (sgT neg ++ ([48] ++ zt k))) := by
  cases neg with
  | true => exact app_f_true g 10 k 0 W0 W v [] h hb hg (by simp) (by omega)
  | false => exact app_f_false g 10 k 0 W0 W v [] h hb hg (by simp) (by omega)

theorem app_x (k : Nat) (hk : k ≤ 1000) (neg : Bool) (g : Nat) (W0 W : World) (v : Value) (h : Spc W g 10 0 0 neg) (hb : Bu W0 W v []) (hg : g < W0.heap.size) : Calls Tryz.prog 47 #[.pointer (some ⟨g, 0, none⟩), v, .int .u8 120, .int .i64 (k : Int)] W (BuPost W0 (sgT neg ++ ([48, 120, 48] ++ zt k ++ [112, 43, 48, 48]))) := by
  cases neg with
  | true => exact app_x_true g 10 k 0 W0 W v [] h hb hg (by simp) (by omega)
  | false => exact app_x_false g 10 k 0 W0 W v [] h hb hg (by simp) (by omega)

theorem app_p (k : Nat) (hk : k ≤ 1000) (neg : Bool) (g : Nat) (W0 W : World) (v : Value) (h : Spc W g 10 0 0 neg) (hb : Bu W0 W v []) (hg : g < W0.heap.size) : Calls Tryz.prog 47 #[.pointer (some ⟨g, 0, none⟩), v, .int .u8 112, .int .i64 (k : Int)] W (BuPost W0 (sgT neg ++ ([48]))) := by
  cases neg with
  | true => exact app_p_true g 10 k 0 W0 W v [] h hb hg (by simp) (by omega)
  | false => exact app_p_false g 10 k 0 W0 W v [] h hb hg (by simp) (by omega)

theorem app_b (k : Nat) (hk : k ≤ 1000) (neg : Bool) (g : Nat) (W0 W : World) (v : Value) (h : Spc W g 10 0 0 neg) (hb : Bu W0 W v []) (hg : g < W0.heap.size) : Calls Tryz.prog 47 #[.pointer (some ⟨g, 0, none⟩), v, .int .u8 98, .int .i64 (k : Int)] W (BuPost W0 (sgT neg ++ ([48]))) := by
  cases neg with
  | true => exact app_b_true g 10 k 0 W0 W v [] h hb hg (by simp) (by omega)
  | false => exact app_b_false g 10 k 0 W0 W v [] h hb hg (by simp) (by omega)

theorem app_g (k : Nat) (hk : k ≤ 1000) (neg : Bool) (g : Nat) (W0 W : World) (v : Value) (h : Spc W g 10 0 0 neg) (hb : Bu W0 W v []) (hg : g < W0.heap.size) : Calls Tryz.prog 47 #[.pointer (some ⟨g, 0, none⟩), v, .int .u8 103, .int .i64 (k : Int)] W (BuPost W0 (sgT neg ++ [48])) := by
  by_cases h0 : k = 0
  · subst h0
    cases neg with
    | true => exact app_g0_true g 10 0 W0 W v [] h hb hg (by simp)
    | false => exact app_g0_false g 10 0 W0 W v [] h hb hg (by simp)
  · cases neg with
    | true => exact app_g_true g 10 k 0 W0 W v [] h hb hg (by simp) (by omega)
    | false => exact app_g_false g 10 k 0 W0 W v [] h hb hg (by simp) (by omega)

theorem sadd {a b c : ByteArray} (h : c = a ++ b) (hs : a.size + b.size ≤ 100000) (w : World) : (Op.stringOp .add a b).run Tryz.prog w = .ok (.string c) w := by
  rw [h]; exact run_string_add_sum w a b (by omega)
theorem son (l m n : List Int) (h : n = l ++ m) : strOfNums n = strOfNums l ++ strOfNums m := by rw [h, strOfNums_append]
set_option maxHeartbeats 12800000 in
set_option maxRecDepth 100000 in
theorem walk (neg : Bool) (n : Int) (hn : (Lit.int .u8 n).wf = true) (w : World) :
    Calls Tryz.prog 4 #[.bool neg, .int .u8 n] w fun e w' => e = .returned (.bool true) ∧ Below w.heap.size w w' := by
  have h2 := wf_u8 hn
  obtain ⟨k, hr⟩ : ∃ k : Nat, (k : Int) = n % 31 := ⟨(n % 31).toNat, by omega⟩
  have hr1 : n % 31 = (k : Int) := hr.symm
  have hr2 : Int.tmod n 31 = (k : Int) := by rw [Int.tmod_eq_emod_of_nonneg (by omega)]; exact hr1
  have hk30 : k ≤ 30 := by omega
  have hkw : IntKind.i64.wrap (k : Int) = (k : Int) := IntWalk.i64_in _ (by omega)
  have hu := Tryz.underlying25
  obtain ⟨pre, hpre⟩ : ∃ pre : List Int, pre = if k = 0 then [] else [46] := ⟨_, rfl⟩
  have hzt : zt k = pre ++ List.replicate k 48 := by
    rw [hpre]
    unfold zt
    by_cases h0 : k = 0
    · subst h0; rfl
    · rw [if_neg h0, if_neg h0]; rfl
  obtain ⟨TT, hTT⟩ : ∃ TT : Nat → ByteArray, TT = fun i => strOfNums (pre ++ List.replicate i 48) := ⟨_, rfl⟩
  have hpl : pre.length ≤ 1 := by rw [hpre]; split <;> simp
  have hTS : ∀ i, i ≤ 31 → (TT i).size ≤ 40 := fun i hi => by rw [hTT]; simp only; rw [strOfNums_size', List.length_append, List.length_replicate]; omega
  have HTN : Aside0 (∀ i w, i ≤ 30 → (Op.stringOp .add (TT i) ⟨#[48]⟩).run Tryz.prog w = .ok (.string (TT (i + 1))) w) := ⟨fun i w hi => sadd (by
    rw [hTT]
    simp only
    rw [List.replicate_succ', ← List.append_assoc, strOfNums_append]
    rfl) (by have := hTS i (by omega); show _ + 1 ≤ _; omega) w⟩
  obtain ⟨SG, hSG⟩ : ∃ SG, SG = strOfNums (sgT neg) := ⟨_, rfl⟩
  obtain ⟨SZ, hSZ⟩ : ∃ SZ, SZ = strOfNums (sgT neg ++ [48]) := ⟨_, rfl⟩
  obtain ⟨SX, hSX⟩ : ∃ SX, SX = strOfNums (sgT neg ++ [48, 120, 48]) := ⟨_, rfl⟩
  obtain ⟨SZT, hSZT⟩ : ∃ SZT, SZT = strOfNums (sgT neg ++ ([48] ++ zt k)) := ⟨_, rfl⟩
  obtain ⟨SXT, hSXT⟩ : ∃ SXT, SXT = strOfNums (sgT neg ++ [48, 120, 48] ++ zt k) := ⟨_, rfl⟩
  obtain ⟨SE, hSE⟩ : ∃ SE, SE = strOfNums (sgT neg ++ ([48] ++ zt k ++ [101, 43, 48, 48])) := ⟨_, rfl⟩
  obtain ⟨SXX, hSXX⟩ : ∃ SXX, SXX = strOfNums (sgT neg ++ ([48, 120, 48] ++ zt k ++ [112, 43, 48, 48])) := ⟨_, rfl⟩
  have hTk : TT k = strOfNums (zt k) := by rw [hTT, hzt]
  have hsg : (sgT neg).length ≤ 1 := by cases neg <;> simp [sgT]
  have hztl : (zt k).length ≤ 31 := by rw [hzt, List.length_append, List.length_replicate]; omega
  have hz1 : (⟨#[48]⟩ : ByteArray) = strOfNums [48] := rfl
  have hz2 : (⟨#[48, 120, 48]⟩ : ByteArray) = strOfNums [48, 120, 48] := rfl
  have hz3 : (⟨#[101, 43, 48, 48]⟩ : ByteArray) = strOfNums [101, 43, 48, 48] := rfl
  have hz4 : (⟨#[112, 43, 48, 48]⟩ : ByteArray) = strOfNums [112, 43, 48, 48] := rfl
  have a1 : ∀ w, (Op.stringOp .add SG ⟨#[48]⟩).run Tryz.prog w = .ok (.string SZ) w := fun w => sadd (by rw [hSZ, hSG, hz1]; exact son _ _ _ rfl) (by rw [hSG, hz1, strOfNums_size', strOfNums_size']; simp; omega) w
  have a2 : ∀ w, (Op.stringOp .add SZ (TT k)).run Tryz.prog w = .ok (.string SZT) w := fun w => sadd (by rw [hSZT, hSZ, hTk]; exact son _ _ _ (by simp)) (by rw [hSZ, hTk, strOfNums_size', strOfNums_size']; simp; omega) w
  have a3 : ∀ w, (Op.stringOp .add SZT ⟨#[101, 43, 48, 48]⟩).run Tryz.prog w = .ok (.string SE) w := fun w => sadd (by rw [hSE, hSZT, hz3]; exact son _ _ _ (by simp)) (by rw [hSZT, hz3, strOfNums_size', strOfNums_size']; simp; omega) w
  have a4 : ∀ w, (Op.stringOp .add SG ⟨#[48, 120, 48]⟩).run Tryz.prog w = .ok (.string SX) w := fun w => sadd (by rw [hSX, hSG, hz2]; exact son _ _ _ rfl) (by rw [hSG, hz2, strOfNums_size', strOfNums_size']; simp; omega) w
  have a5 : ∀ w, (Op.stringOp .add SX (TT k)).run Tryz.prog w = .ok (.string SXT) w := fun w => sadd (by rw [hSXT, hSX, hTk]; exact son _ _ _ (by simp)) (by rw [hSX, hTk, strOfNums_size', strOfNums_size']; simp; omega) w
  have a6 : ∀ w, (Op.stringOp .add SXT ⟨#[112, 43, 48, 48]⟩).run Tryz.prog w = .ok (.string SXX) w := fun w => sadd (by rw [hSXX, hSXT, hz4]; exact son _ _ _ (by simp)) (by rw [hSXT, hz4, strOfNums_size', strOfNums_size']; simp; omega) w
  have HTe : Aside0 (∀ W, Calls Tryz.prog 15 #[.agg #[.int .u64 10, .int .i64 0, .int .i64 0, .bool neg, .slice none 0 0, .int .i64 0], .int .u8 101, .int .i64 (k : Int)] W fun e w' => e = .returned (.string SE) ∧ Below W.heap.size W w') := ⟨fun W => by
    rw [hSE]
    exact text0_c 101 k neg (sgT neg ++ ([48] ++ zt k ++ [101, 43, 48, 48])) W (by omega) (fun g W0 W v h hb hg => app_e k (by omega) neg g W0 W v h hb hg)⟩
  have HTf : Aside0 (∀ W, Calls Tryz.prog 15 #[.agg #[.int .u64 10, .int .i64 0, .int .i64 0, .bool neg, .slice none 0 0, .int .i64 0], .int .u8 102, .int .i64 (k : Int)] W fun e w' => e = .returned (.string SZT) ∧ Below W.heap.size W w') := ⟨fun W => by
    rw [hSZT]
    exact text0_c 102 k neg (sgT neg ++ ([48] ++ zt k)) W (by omega) (fun g W0 W v h hb hg => app_f k (by omega) neg g W0 W v h hb hg)⟩
  have HTx : Aside0 (∀ W, Calls Tryz.prog 15 #[.agg #[.int .u64 10, .int .i64 0, .int .i64 0, .bool neg, .slice none 0 0, .int .i64 0], .int .u8 120, .int .i64 (k : Int)] W fun e w' => e = .returned (.string SXX) ∧ Below W.heap.size W w') := ⟨fun W => by
    rw [hSXX]
    exact text0_c 120 k neg (sgT neg ++ ([48, 120, 48] ++ zt k ++ [112, 43, 48, 48])) W (by omega) (fun g W0 W v h hb hg => app_x k (by omega) neg g W0 W v h hb hg)⟩
  have HTg : Aside0 (∀ W, Calls Tryz.prog 15 #[.agg #[.int .u64 10, .int .i64 0, .int .i64 0, .bool neg, .slice none 0 0, .int .i64 0], .int .u8 103, .int .i64 (k : Int)] W fun e w' => e = .returned (.string SZ) ∧ Below W.heap.size W w') := ⟨fun W => by
    rw [hSZ]
    exact text0_c 103 k neg (sgT neg ++ [48]) W (by omega) (fun g W0 W v h hb hg => app_g k (by omega) neg g W0 W v h hb hg)⟩
  have HTp : Aside0 (∀ W, Calls Tryz.prog 15 #[.agg #[.int .u64 10, .int .i64 0, .int .i64 0, .bool neg, .slice none 0 0, .int .i64 0], .int .u8 112, .int .i64 (k : Int)] W fun e w' => e = .returned (.string SZ) ∧ Below W.heap.size W w') := ⟨fun W => by
    rw [hSZ]
    exact text0_c 112 k neg (sgT neg ++ ([48])) W (by omega) (fun g W0 W v h hb hg => app_p k (by omega) neg g W0 W v h hb hg)⟩
  have HTb : Aside0 (∀ W, Calls Tryz.prog 15 #[.agg #[.int .u64 10, .int .i64 0, .int .i64 0, .bool neg, .slice none 0 0, .int .i64 0], .int .u8 98, .int .i64 (k : Int)] W fun e w' => e = .returned (.string SZ) ∧ Below W.heap.size W w') := ⟨fun W => by
    rw [hSZ]
    exact text0_c 98 k neg (sgT neg ++ ([48])) W (by omega) (fun g W0 W v h hb hg => app_b k (by omega) neg g W0 W v h hb hg)⟩
  have HT0 : Aside0 (∀ c : ByteArray, c = strOfNums pre → c = TT 0) := ⟨fun c h => by rw [h, hTT]; simp⟩
  have HPR := Aside0.mk hpre
  have HSG := Aside0.mk hSG
  have V0 : Aside0 (hp (w.alloc (.cells #[.int .u64 10, .int .i64 0, .int .i64 0, .bool neg, .slice none 0 0, .int .i64 0] 25)) w.heap.size = some (.cells #[.int .u64 10, .int .i64 0, .int .i64 0, .bool neg, .slice none 0 0, .int .i64 0] 25 (0, 0))) := ⟨hp_new _ _ _ rfl⟩
  have HB := Aside0.mk (below_alloc (Below.refl w.heap.size w) (.cells #[.int .u64 10, .int .i64 0, .int .i64 0, .bool neg, .slice none 0 0, .int .i64 0] 25))
  clear hn h2 hr hpre hzt hTT hpl hTS hSG hSZ hSX hSZT hSXT hSE hSXX hTk hsg hztl hz1 hz2 hz3 hz4
  cases neg with
  | true =>
    obtain rfl : SG = ⟨#[45]⟩ := HSG.out.trans rfl
    by_cases h0 : k = 0
    · have HT00 := Aside0.mk (HT0.out ⟨#[]⟩ (by rw [HPR.out, if_pos h0]; rfl))
      have hk0 : ¬ (0 : Int) < (k : Int) := by omega
      clear h0
      go_enter Tryz.func4, Tryz.ntmps4
      go_upto_block 0 with (fail)
      obtain ⟨w1, hw1⟩ : ∃ w1, w1 = w.alloc (.cells #[.int .u64 10, .int .i64 0, .int .i64 0, .bool true, .slice none 0 0, .int .i64 0] 25) := ⟨_, rfl⟩
      rw [← hw1] at HB V0 ⊢
      clear hw1
      obtain ⟨c0, c1, c2, c3, c4, c5, f0, f1, f2, f3, f4, f5⟩ := blk6 V0.out
      have l1 := hp_lt V0.out
      go_wp2_with (fail)
      go_loopg [8, 18] k (fun gk v8 v18 wr => ∃ i : Nat, gk = k - i ∧ i ≤ k ∧ v18 = .int .i64 (i : Int) ∧ v8 = .string (TT i) ∧ w1 = wr)
      case atStart => exact ⟨0, rfl, by omega, rfl, by rw [← HT00.out], rfl⟩
      case round =>
        obtain ⟨i, rfl, hi, rfl, rfl, rfl⟩ := hrel
        by_cases hik : i = k
        · subst hik
          go_wp2_with (first | (go_at_call 15; ((with_reducible refine (HTe.out _).mono ?_); rintro e w2 ⟨rfl, hb2⟩; have HB2 := Aside0.mk (below_step HB.out hb2); have V2 := Aside0.mk (hp_below V0.out hb2); obtain ⟨d0, d1, d2, d3, d4, d5, _, _, _, _, _, _⟩ := blk6 V2.out; clear hb2)) | (go_at_call 15; ((with_reducible refine (HTf.out _).mono ?_); rintro e w3 ⟨rfl, hb3⟩; have HB3 := Aside0.mk (below_step HB2.out hb3); have V3 := Aside0.mk (hp_below V2.out hb3); obtain ⟨e0, e1, e2, e3, e4, e5, _, _, _, _, _, _⟩ := blk6 V3.out; clear hb3)) | (go_at_call 15; ((with_reducible refine (HTx.out _).mono ?_); rintro e w4 ⟨rfl, hb4⟩; have HB4 := Aside0.mk (below_step HB3.out hb4); have V4 := Aside0.mk (hp_below V3.out hb4); obtain ⟨g0, g1, g2, g3, g4, g5, _, _, _, _, _, _⟩ := blk6 V4.out; clear hb4)) | (go_at_call 15; ((with_reducible refine (HTg.out _).mono ?_); rintro e w5 ⟨rfl, hb5⟩; have HB5 := Aside0.mk (below_step HB4.out hb5); have V5 := Aside0.mk (hp_below V4.out hb5); obtain ⟨i0, i1, i2, i3, i4, i5, _, _, _, _, _, _⟩ := blk6 V5.out; clear hb5)) | (go_at_call 15; ((with_reducible refine (HTp.out _).mono ?_); rintro e w6 ⟨rfl, hb6⟩; have HB6 := Aside0.mk (below_step HB5.out hb6); have V6 := Aside0.mk (hp_below V5.out hb6); obtain ⟨j0, j1, j2, j3, j4, j5, _, _, _, _, _, _⟩ := blk6 V6.out; clear hb6)) | (go_at_call 15; ((with_reducible refine (HTb.out _).mono ?_); rintro e w7 ⟨rfl, hb7⟩; have HB7 := Aside0.mk (below_step HB6.out hb7); clear hb7)) | fail)
          go_ret
          exact ⟨rfl, HB7.out⟩
        · have hlt : (i : Int) < (k : Int) := by omega
          have hwi : IntKind.i64.wrap ((i : Int) + 1) = ((i + 1 : Nat) : Int) := by rw [IntWalk.i64_in _ (by omega)]; omega
          have hs := fun w => HTN.out i w (by omega)
          exfalso; omega
    · have HT00 := Aside0.mk (HT0.out ⟨#[46]⟩ (by rw [HPR.out, if_neg h0]; rfl))
      have hk0 : (0 : Int) < (k : Int) := by omega
      go_enter Tryz.func4, Tryz.ntmps4
      go_upto_block 0 with (fail)
      obtain ⟨w1, hw1⟩ : ∃ w1, w1 = w.alloc (.cells #[.int .u64 10, .int .i64 0, .int .i64 0, .bool true, .slice none 0 0, .int .i64 0] 25) := ⟨_, rfl⟩
      rw [← hw1] at HB V0 ⊢
      clear hw1
      obtain ⟨c0, c1, c2, c3, c4, c5, f0, f1, f2, f3, f4, f5⟩ := blk6 V0.out
      have l1 := hp_lt V0.out
      go_wp2_with (fail)
      go_loopg [8, 18] k (fun gk v8 v18 wr => ∃ i : Nat, gk = k - i ∧ i ≤ k ∧ v18 = .int .i64 (i : Int) ∧ v8 = .string (TT i) ∧ w1 = wr)
      case atStart => exact ⟨0, rfl, by omega, rfl, by rw [← HT00.out], rfl⟩
      case round =>
        obtain ⟨i, rfl, hi, rfl, rfl, rfl⟩ := hrel
        by_cases hik : i = k
        · subst hik
          go_wp2_with (first | (go_at_call 15; ((with_reducible refine (HTe.out _).mono ?_); rintro e w2 ⟨rfl, hb2⟩; have HB2 := Aside0.mk (below_step HB.out hb2); have V2 := Aside0.mk (hp_below V0.out hb2); obtain ⟨d0, d1, d2, d3, d4, d5, _, _, _, _, _, _⟩ := blk6 V2.out; clear hb2)) | (go_at_call 15; ((with_reducible refine (HTf.out _).mono ?_); rintro e w3 ⟨rfl, hb3⟩; have HB3 := Aside0.mk (below_step HB2.out hb3); have V3 := Aside0.mk (hp_below V2.out hb3); obtain ⟨e0, e1, e2, e3, e4, e5, _, _, _, _, _, _⟩ := blk6 V3.out; clear hb3)) | (go_at_call 15; ((with_reducible refine (HTx.out _).mono ?_); rintro e w4 ⟨rfl, hb4⟩; have HB4 := Aside0.mk (below_step HB3.out hb4); have V4 := Aside0.mk (hp_below V3.out hb4); obtain ⟨g0, g1, g2, g3, g4, g5, _, _, _, _, _, _⟩ := blk6 V4.out; clear hb4)) | (go_at_call 15; ((with_reducible refine (HTg.out _).mono ?_); rintro e w5 ⟨rfl, hb5⟩; have HB5 := Aside0.mk (below_step HB4.out hb5); have V5 := Aside0.mk (hp_below V4.out hb5); obtain ⟨i0, i1, i2, i3, i4, i5, _, _, _, _, _, _⟩ := blk6 V5.out; clear hb5)) | (go_at_call 15; ((with_reducible refine (HTp.out _).mono ?_); rintro e w6 ⟨rfl, hb6⟩; have HB6 := Aside0.mk (below_step HB5.out hb6); have V6 := Aside0.mk (hp_below V5.out hb6); obtain ⟨j0, j1, j2, j3, j4, j5, _, _, _, _, _, _⟩ := blk6 V6.out; clear hb6)) | (go_at_call 15; ((with_reducible refine (HTb.out _).mono ?_); rintro e w7 ⟨rfl, hb7⟩; have HB7 := Aside0.mk (below_step HB6.out hb7); clear hb7)) | fail)
          go_ret
          exact ⟨rfl, HB7.out⟩
        · have hlt : (i : Int) < (k : Int) := by omega
          have hwi : IntKind.i64.wrap ((i : Int) + 1) = ((i + 1 : Nat) : Int) := by rw [IntWalk.i64_in _ (by omega)]; omega
          have hs := fun w => HTN.out i w (by omega)
          go_wp2_with (fail)
          go_roundg (k - (i + 1))
          case measure => omega
          case rel => exact ⟨i + 1, rfl, by omega, by simp, rfl, rfl⟩
  | false =>
    obtain rfl : SG = ⟨#[]⟩ := HSG.out.trans rfl
    by_cases h0 : k = 0
    · have HT00 := Aside0.mk (HT0.out ⟨#[]⟩ (by rw [HPR.out, if_pos h0]; rfl))
      have hk0 : ¬ (0 : Int) < (k : Int) := by omega
      clear h0
      go_enter Tryz.func4, Tryz.ntmps4
      go_upto_block 0 with (fail)
      obtain ⟨w1, hw1⟩ : ∃ w1, w1 = w.alloc (.cells #[.int .u64 10, .int .i64 0, .int .i64 0, .bool false, .slice none 0 0, .int .i64 0] 25) := ⟨_, rfl⟩
      rw [← hw1] at HB V0 ⊢
      clear hw1
      obtain ⟨c0, c1, c2, c3, c4, c5, f0, f1, f2, f3, f4, f5⟩ := blk6 V0.out
      have l1 := hp_lt V0.out
      go_wp2_with (fail)
      go_loopg [8, 18] k (fun gk v8 v18 wr => ∃ i : Nat, gk = k - i ∧ i ≤ k ∧ v18 = .int .i64 (i : Int) ∧ v8 = .string (TT i) ∧ w1 = wr)
      case atStart => exact ⟨0, rfl, by omega, rfl, by rw [← HT00.out], rfl⟩
      case round =>
        obtain ⟨i, rfl, hi, rfl, rfl, rfl⟩ := hrel
        by_cases hik : i = k
        · subst hik
          go_wp2_with (first | (go_at_call 15; ((with_reducible refine (HTe.out _).mono ?_); rintro e w2 ⟨rfl, hb2⟩; have HB2 := Aside0.mk (below_step HB.out hb2); have V2 := Aside0.mk (hp_below V0.out hb2); obtain ⟨d0, d1, d2, d3, d4, d5, _, _, _, _, _, _⟩ := blk6 V2.out; clear hb2)) | (go_at_call 15; ((with_reducible refine (HTf.out _).mono ?_); rintro e w3 ⟨rfl, hb3⟩; have HB3 := Aside0.mk (below_step HB2.out hb3); have V3 := Aside0.mk (hp_below V2.out hb3); obtain ⟨e0, e1, e2, e3, e4, e5, _, _, _, _, _, _⟩ := blk6 V3.out; clear hb3)) | (go_at_call 15; ((with_reducible refine (HTx.out _).mono ?_); rintro e w4 ⟨rfl, hb4⟩; have HB4 := Aside0.mk (below_step HB3.out hb4); have V4 := Aside0.mk (hp_below V3.out hb4); obtain ⟨g0, g1, g2, g3, g4, g5, _, _, _, _, _, _⟩ := blk6 V4.out; clear hb4)) | (go_at_call 15; ((with_reducible refine (HTg.out _).mono ?_); rintro e w5 ⟨rfl, hb5⟩; have HB5 := Aside0.mk (below_step HB4.out hb5); have V5 := Aside0.mk (hp_below V4.out hb5); obtain ⟨i0, i1, i2, i3, i4, i5, _, _, _, _, _, _⟩ := blk6 V5.out; clear hb5)) | (go_at_call 15; ((with_reducible refine (HTp.out _).mono ?_); rintro e w6 ⟨rfl, hb6⟩; have HB6 := Aside0.mk (below_step HB5.out hb6); have V6 := Aside0.mk (hp_below V5.out hb6); obtain ⟨j0, j1, j2, j3, j4, j5, _, _, _, _, _, _⟩ := blk6 V6.out; clear hb6)) | (go_at_call 15; ((with_reducible refine (HTb.out _).mono ?_); rintro e w7 ⟨rfl, hb7⟩; have HB7 := Aside0.mk (below_step HB6.out hb7); clear hb7)) | fail)
          go_ret
          exact ⟨rfl, HB7.out⟩
        · have hlt : (i : Int) < (k : Int) := by omega
          have hwi : IntKind.i64.wrap ((i : Int) + 1) = ((i + 1 : Nat) : Int) := by rw [IntWalk.i64_in _ (by omega)]; omega
          have hs := fun w => HTN.out i w (by omega)
          exfalso; omega
    · have HT00 := Aside0.mk (HT0.out ⟨#[46]⟩ (by rw [HPR.out, if_neg h0]; rfl))
      have hk0 : (0 : Int) < (k : Int) := by omega
      go_enter Tryz.func4, Tryz.ntmps4
      go_upto_block 0 with (fail)
      obtain ⟨w1, hw1⟩ : ∃ w1, w1 = w.alloc (.cells #[.int .u64 10, .int .i64 0, .int .i64 0, .bool false, .slice none 0 0, .int .i64 0] 25) := ⟨_, rfl⟩
      rw [← hw1] at HB V0 ⊢
      clear hw1
      obtain ⟨c0, c1, c2, c3, c4, c5, f0, f1, f2, f3, f4, f5⟩ := blk6 V0.out
      have l1 := hp_lt V0.out
      go_wp2_with (fail)
      go_loopg [8, 18] k (fun gk v8 v18 wr => ∃ i : Nat, gk = k - i ∧ i ≤ k ∧ v18 = .int .i64 (i : Int) ∧ v8 = .string (TT i) ∧ w1 = wr)
      case atStart => exact ⟨0, rfl, by omega, rfl, by rw [← HT00.out], rfl⟩
      case round =>
        obtain ⟨i, rfl, hi, rfl, rfl, rfl⟩ := hrel
        by_cases hik : i = k
        · subst hik
          go_wp2_with (first | (go_at_call 15; ((with_reducible refine (HTe.out _).mono ?_); rintro e w2 ⟨rfl, hb2⟩; have HB2 := Aside0.mk (below_step HB.out hb2); have V2 := Aside0.mk (hp_below V0.out hb2); obtain ⟨d0, d1, d2, d3, d4, d5, _, _, _, _, _, _⟩ := blk6 V2.out; clear hb2)) | (go_at_call 15; ((with_reducible refine (HTf.out _).mono ?_); rintro e w3 ⟨rfl, hb3⟩; have HB3 := Aside0.mk (below_step HB2.out hb3); have V3 := Aside0.mk (hp_below V2.out hb3); obtain ⟨e0, e1, e2, e3, e4, e5, _, _, _, _, _, _⟩ := blk6 V3.out; clear hb3)) | (go_at_call 15; ((with_reducible refine (HTx.out _).mono ?_); rintro e w4 ⟨rfl, hb4⟩; have HB4 := Aside0.mk (below_step HB3.out hb4); have V4 := Aside0.mk (hp_below V3.out hb4); obtain ⟨g0, g1, g2, g3, g4, g5, _, _, _, _, _, _⟩ := blk6 V4.out; clear hb4)) | (go_at_call 15; ((with_reducible refine (HTg.out _).mono ?_); rintro e w5 ⟨rfl, hb5⟩; have HB5 := Aside0.mk (below_step HB4.out hb5); have V5 := Aside0.mk (hp_below V4.out hb5); obtain ⟨i0, i1, i2, i3, i4, i5, _, _, _, _, _, _⟩ := blk6 V5.out; clear hb5)) | (go_at_call 15; ((with_reducible refine (HTp.out _).mono ?_); rintro e w6 ⟨rfl, hb6⟩; have HB6 := Aside0.mk (below_step HB5.out hb6); have V6 := Aside0.mk (hp_below V5.out hb6); obtain ⟨j0, j1, j2, j3, j4, j5, _, _, _, _, _, _⟩ := blk6 V6.out; clear hb6)) | (go_at_call 15; ((with_reducible refine (HTb.out _).mono ?_); rintro e w7 ⟨rfl, hb7⟩; have HB7 := Aside0.mk (below_step HB6.out hb7); clear hb7)) | fail)
          go_ret
          exact ⟨rfl, HB7.out⟩
        · have hlt : (i : Int) < (k : Int) := by omega
          have hwi : IntKind.i64.wrap ((i : Int) + 1) = ((i + 1 : Nat) : Int) := by rw [IntWalk.i64_in _ (by omega)]; omega
          have hs := fun w => HTN.out i w (by omega)
          go_wp2_with (fail)
          go_roundg (k - (i + 1))
          case measure => omega
          case rel => exact ⟨i + 1, rfl, by omega, by simp, rfl, rfl⟩
end Go.Proofs.YtalfclpjkefldaaGreatDoor.fnZeroText
