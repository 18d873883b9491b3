/-
  CONTRACT of nat.utoa to the base 16.
-/
import Derived.Test.YtfnknldbjckgoaaGreatDoorZGuto
import Derived.Test.YtfnknldbjckgoaaGreatDoorZGx1
import Derived.Deep.LoopGhost
namespace Go.Proofs.YtfnknldbjckgoaaGreatDoor.Sp
open Go.RowKit Go.Proofs.YtfnknldbjckgoaaGreatDoorW.PrintWords Go.Proofs.YtfnknldbjckgoaaGreatDoorW.PrintLast Go.Proofs.YtfnknldbjckgoaaGreatDoorW.PrintMore Go.Proofs.YtfnknldbjckgoaaGreatDoor.Dig
set_option linter.unusedVariables false
set_option linter.unusedSimpArgs false
/-- What is written so far: M figures of x to the base 16 at the end. -/
def Wh (w : World) (g N M x : Nat) : Prop := M ≤ N ∧ ∃ Y, Y.length = N - M ∧ Br w g (Y ++ lows 16 M x)
theorem Wh.below {w w' : World} {g N M x : Nat} (h : Wh w g N M x) (hb : Below w.heap.size w w') : Wh w' g N M x := by
  obtain ⟨h0, Y, h1, h2⟩ := h
  exact ⟨h0, Y, h1, hp_below (show hp w g = _ from h2) hb⟩
theorem Wh.cell {w : World} {g N M x : Nat} (h : Wh w g N M x) (j : Nat) (hj : j < N) : ∃ y, w.cell? ⟨g, j, none⟩ = some (.int .u8 y) ∧ w.frozen? ⟨g, j, none⟩ = false ∧ g < w.heap.size := by
  obtain ⟨h0, Y, h1, h2⟩ := h
  exact ⟨_, h2.cell j (by rw [List.length_append, lows_len]; omega), blk_frozen (show hp w g = _ from h2) j, hp_lt (show hp w g = _ from h2)⟩
/-- One figure more. -/
theorem Wh.next {w : World} {g N M x : Nat} (h : Wh w g N M x) (hM : M < N) (c : Int) (hc : c = fig (x / 16 ^ M % 16)) : Wh (w.setCell ⟨g, N - M - 1, none⟩ (.int .u8 c)) g N (M + 1) x := by
  obtain ⟨h0, Y, h1, h2⟩ := h
  refine ⟨hM, Y.take (N - M - 1), by rw [List.length_take]; omega, ?_⟩
  have h3 := h2.set (N - M - 1) c
  rw [lows_top, ← hc]
  have e3 : (Y ++ lows 16 M x).set (N - M - 1) c = Y.take (N - M - 1) ++ c :: lows 16 M x := by
    rw [List.set_append_left _ _ (by omega)]
    have : Y.set (N - M - 1) c = Y.take (N - M - 1) ++ [c] := by
      rw [List.set_eq_take_append_cons_drop, if_pos (by omega), List.drop_eq_nil_of_le (by omega)]
    rw [this, List.append_assoc]
    rfl
  rw [← e3]
  exact h3
theorem of16f : floatOfInt .f64 16 = 4625196817309499392 := by decide +kernel
/-- The signs of figures, as they stand in the text of the package. -/
def dgs : ByteArray := ⟨#[48, 49, 50, 51, 52, 53, 54, 55, 56, 57, 97, 98, 99, 100, 101, 102, 103, 104, 105, 106, 107, 108, 109, 110, 111, 112, 113, 114, 115, 116, 117, 118, 119, 120, 121, 122, 65, 66, 67, 68, 69, 70, 71, 72, 73, 74, 75, 76, 77, 78, 79, 80, 81, 82, 83, 84, 85, 86, 87, 88, 89, 90]⟩
theorem and15 (n : Nat) (hn : n < 18446744073709551616) : Go.bits .and .u64 (n : Int) 15 = ((n % 16 : Nat) : Int) := by
  have h := u64_and_nat n 15 hn (by omega)
  have h2 : Go.bits .and .u64 (n : Int) 15 = ((n &&& 15 : Nat) : Int) := h
  rw [h2, show (15 : Nat) = 2 ^ 4 - 1 from rfl, Nat.and_two_pow_sub_one_eq_mod]
theorem dgs_fig (d : Nat) (hd : d < 16) (h : d < dgs.size) : ((dgs[d]'h).toNat : Int) = fig d := by
  match d, hd with
  | 0, _ => rfl
  | 1, _ => rfl
  | 2, _ => rfl
  | 3, _ => rfl
  | 4, _ => rfl
  | 5, _ => rfl
  | 6, _ => rfl
  | 7, _ => rfl
  | 8, _ => rfl
  | 9, _ => rfl
  | 10, _ => rfl
  | 11, _ => rfl
  | 12, _ => rfl
  | 13, _ => rfl
  | 14, _ => rfl
  | 15, _ => rfl
  | d + 16, h => exact absurd h (by omega)
theorem c16_lt {c : Nat} (h : c ≤ 16) : (16 : Nat) ^ c ≤ 18446744073709551616 := Nat.le_trans (Nat.pow_le_pow_right (by omega) h) (by decide)
set_option maxHeartbeats 6400000 in
set_option maxRecDepth 100000 in
theorem itoa16_c (V : Value) (v : Nat) (w : World) (h : Wd w V (v : Int)) (h0 : 0 < v) (hb : Fit v) (hTb : Tb w) :
    Calls Tryz.prog 98 #[V, .bool false, .int .i64 16] w (UP w (figs 16 v)) := by
  obtain ⟨A, c, l, rfl, hlc, hC, hcn, hev⟩ := h
  have hln : l ≠ [] := by rintro rfl; rw [ev_nil] at hev; omega
  have hl0 : 0 < l.length := List.length_pos_iff.2 hln
  have hl8 : l.length ≤ 8 := Cn_len_le hcn (by rw [BW_def]; omega) 8 (by rw [hev]; exact hb.bw)
  obtain ⟨ad, rfl⟩ : ∃ ad, A = some ad := by
    obtain ⟨a, e, _⟩ := hC.2.2 hl0
    exact ⟨a, e⟩
  have had : ad.block < w.heap.size := by
    have h1 := World.block_lt_of_cell? w _ (C_at hC 0 hl0)
    rwa [show (ad.add 0).block = ad.block from by unfold Addr.add; split <;> rfl] at h1
  obtain ⟨B, hB⟩ := Bits.exists (v : Int) (by omega)
  obtain ⟨hB512, hvB⟩ := hb.bits hB
  obtain ⟨r, n, hr, hn, hn1000, hroom⟩ := roomB_of room16 hB512
  have hvN : v < 16 ^ (n + 1) := Nat.lt_of_lt_of_le hvB hroom
  obtain ⟨fb, hfb⟩ : ∃ fb, floatOfInt .f64 (B : Int) = fb := ⟨_, rfl⟩
  rw [hfb] at hr
  have hquo := run_float_arith (P := Tryz.prog) w .quo 146 .f64 _ _ _ hr
  have hcvi := run_convert_float_int (P := Tryz.prog) w 146 3 .f64 .i64 r (n : Int) (by kernel_rfl) Tryz.underlying3 hn
  have hof := of16f
  have hmk := make_ints 43 5 .u8 1 Tryz.underlying43 infoU8 (by omega) ((n + 1 : Nat) : Int) ((n + 1 : Nat) : Int) (by omega) (by omega) (by omega) w
  have hn1w : IntKind.i64.wrap ((n : Int) + 1) = ((n + 1 : Nat) : Int) := by rw [IntWalk.i64_in _ (by omega)]; omega
  have hn1e : (n : Int) + 1 = ((n + 1 : Nat) : Int) := by omega
  have hl0b : ((l.length : Int) == 0) = false := by rw [beq_eq_false_iff_ne]; omega
  have HBL := Aside0.mk (bitLen_c (some ad) c l B w hC hlc (by omega) hcn (by rw [hev]; exact hB))
  have HC := Aside0.mk hC
  have HCN := Aside0.mk hcn
  have HEV := Aside0.mk hev
  have HVN := Aside0.mk hvN
  have HV0 := Aside0.mk h0
  have HTB := Aside0.mk hTb
  clear hC hcn hev hvN hB hr hn hroom hvB hb h0 hln hTb
  rw [Int.toNat_natCast] at hmk
  obtain ⟨N, hN⟩ : ∃ N, N = n + 1 := ⟨_, rfl⟩
  rw [← hN] at hmk hn1w hn1e HVN
  have hN1 : 1 ≤ N ∧ N ≤ 1001 := by omega
  clear hN
  have hneg : IntKind.u64.wrap (-16) = 18446744073709551600 := by decide +kernel
  have hbn : ((16 : Int) == Go.bits .and .u64 16 (IntKind.u64.wrap (-16))) = true := by decide +kernel
  have hand : Go.bits .and .u64 16 18446744073709551600 = 16 := by decide +kernel
  have HB1 := Aside0.mk (below_alloc (Below.refl w.heap.size w) (.cells (Array.replicate N (.int .u8 0)) 5))
  have HW1 : Aside0 (Wh (w.alloc (.cells (Array.replicate N (.int .u8 0)) 5)) w.heap.size N 0 v) := ⟨Nat.zero_le _, List.replicate N 0, by simp, by
    unfold Br
    rw [hp_new _ _ _ rfl]
    congr 2
    apply Array.toList_inj.1
    simp [nums, lows]⟩
  go_enter_defers Tryz.func98, Tryz.ntmps98
  go_upto_region 11 with (first | (go_at_call 52; refine HBL.out.mono ?_; rintro e w1 ⟨rfl, rfl⟩) | (go_at_call 118; refine (log2_16 _).mono ?_; rintro e w1 ⟨rfl, rfl⟩) | fail)
  obtain ⟨w1, hw1⟩ : ∃ w1, w1 = w.alloc (.cells (Array.replicate N (.int .u8 0)) 5) := ⟨_, rfl⟩
  have hs1 : w1.heap.size = w.heap.size + 1 := by rw [hw1]; simp
  rw [← hw1] at HB1 HW1 ⊢
  obtain ⟨gs, hgs⟩ : ∃ gs, gs = w.heap.size := ⟨_, rfl⟩
  rw [← hgs] at HW1 ⊢
  have HGS := Aside0.mk (show gs = w.heap.size ∧ w1.heap.size = w.heap.size + 1 from ⟨hgs, hs1⟩)
  have HTZ := Aside0.mk (Sh.bits_TrailingZeros 16 (by decide) w1 (fun _ => (HTB.out.kept (Kept.of_below (S := fun _ => False) HB1.out) (fun h => h)).1))
  obtain ⟨s4, hs4⟩ : ∃ s4 : Nat, s4 = 4 := ⟨4, rfl⟩
  have hctz : ((Lib.ctz 64 16 : Nat) : Int) = (s4 : Int) := by rw [hs4]; decide
  rw [hctz] at HTZ
  have HS4 := Aside0.mk hs4
  have hs464 : s4 < 64 := by omega
  have hs4w : IntKind.u64.wrap (s4 : Int) = (s4 : Int) := by rw [hs4]; decide +kernel
  have hmk1 : IntKind.u64.wrap (IntKind.u64.wrap (2 ^ s4 : Int) - 1) = 15 := by rw [hs4]; decide +kernel
  have hmk2 : IntKind.u64.wrap (IntKind.u64.wrap (1 * 2 ^ s4 : Int) - 1) = 15 := by rw [hs4]; decide +kernel
  clear hs4
  have HCA : Aside0 (∀ W, Below w.heap.size w W → ∀ j, j < l.length → W.cell? (ad.add j) = some (.int .u64 (l.getD j 0))) := ⟨fun W hW j hj => (hW.cell (p := ad.add j) (by rw [show (ad.add j).block = ad.block from by unfold Addr.add; split <;> rfl]; exact had)).trans (C_at HC.out j hj)⟩
  have hx0 := HCA.out w1 HB1.out 0 hl0
  have hx0' : w1.cell? ad = some (.int .u64 (l.getD 0 0)) := by rw [show ad.add 0 = ad from by unfold Addr.add; simp] at hx0; exact hx0
  have hwd := okd_get HCN.out.ok BW_pos
  have HWD := Aside0.mk hwd
  obtain ⟨W0, hW0⟩ := Int.eq_ofNat_of_zero_le (hwd 0).1
  rw [hW0] at hx0 hx0'
  obtain ⟨H1, hH1⟩ := Int.eq_ofNat_of_zero_le (ev_nonneg (okd_drop HCN.out.ok 1) BW_pos)
  have HH1 : Aside0 (v / 16 ^ 0 = W0 + 16 ^ 16 * H1 ∧ W0 < 16 ^ 16 ∧ ev BW (l.drop 1) = (H1 : Int) ∧ 0 < v / 16 ^ 0) := ⟨by
    have h1 := ev_split BW l 1 (by omega)
    have h2 : l.take 1 = [l.getD 0 0] := by
      cases hc : l with
      | nil => rw [hc] at hl0; simp at hl0
      | cons a t => rfl
    rw [h2, ev_cons, ev_nil, hW0, hH1, HEV.out, BW_def] at h1
    have h3 := (hwd 0).2
    rw [hW0, BW_def] at h3
    have h4 := HV0.out
    rw [Nat.pow_zero, Nat.div_one]
    exact ⟨by omega, by omega, hH1, h4⟩⟩
  clear hw1 hgs hs1 hbn hneg hand hof hfb hquo hcvi hmk hn1w hn1e hwd hW0 hH1
  go_upto_region 16 with (go_at_call 106; refine HTZ.out.mono ?_; rintro e w2 ⟨rfl, rfl⟩)
  clear hx0 hx0' HTZ hctz hmk1 hmk2
  have hl8i : (l.length : Int) ≤ 8 := by omega
  go_loopg [7, 12, 13, 14] (l.length - 1) (fun k v7 v12 v13 v14 wr => ∃ (M wd H j : Nat), v7 = .int .i64 ((N - M : Nat) : Int) ∧ v12 = .int .u64 (wd : Int) ∧ v13 = .int .u64 64 ∧ v14 = .int .i64 (j : Int) ∧ j + k = l.length ∧ 1 ≤ j ∧ Aside0 (v / 16 ^ M = wd + 16 ^ 16 * H ∧ wd < 16 ^ 16 ∧ ev BW (l.drop j) = (H : Int) ∧ 0 < v / 16 ^ M) ∧ Aside0 (Wh wr gs N M v) ∧ Aside0 (Below w.heap.size w wr))
  case atStart => exact ⟨0, W0, H1, 1, by simp, rfl, rfl, by simp, by omega, by omega, HH1, HW1, HB1⟩
  case round =>
    clear HH1 HW1 HB1
    obtain ⟨M, wd, H, j, rfl, rfl, rfl, rfl, hjk, hj1, HI, HW, HB⟩ := hrel
    by_cases hjl : j < l.length
    · obtain ⟨k', rfl⟩ : ∃ k', gk = k' + 1 := ⟨gk - 1, by omega⟩
      have hjli : (j : Int) < (l.length : Int) := by omega
      have hjw : IntKind.i64.wrap ((j : Int) + 1) = ((j + 1 : Nat) : Int) := by rw [IntWalk.i64_in _ (by omega)]; omega
      have HHP : Aside0 (0 < H) := ⟨by
        have h1 : l.drop j ≠ [] := by intro h; have := congrArg List.length h; rw [List.length_drop, List.length_nil] at this; omega
        have h2 : ∀ (q : Nat) (L : List Int), Cn BW L → Cn BW (L.drop q) := fun q => by
          induction q with
          | zero => intro L h; exact h
          | succ q ih =>
            intro L h
            cases L with
            | nil => exact h
            | cons a t => exact ih t (Cn_tail h)
        have h3 := Cn_pos (h2 j l HCN.out) BW_pos h1
        rw [HI.out.2.2.1] at h3
        omega⟩
      go_wp2_with (fail)
      go_loopg [7, 12, 13] 16 (fun q v7 v12 v13 wr => ∃ (M wd : Nat), v7 = .int .i64 ((N - M : Nat) : Int) ∧ v12 = .int .u64 (wd : Int) ∧ v13 = .int .u64 ((4 * q : Nat) : Int) ∧ q ≤ 16 ∧ Aside0 (v / 16 ^ M = wd + 16 ^ q * H ∧ wd < 16 ^ q) ∧ Aside0 (Wh wr gs N M v) ∧ Aside0 (Below w.heap.size w wr))
      case atStart => exact ⟨M, wd, rfl, rfl, by simp, Nat.le_refl _, ⟨HI.out.1, HI.out.2.1⟩, HW, HB⟩
      case round =>
        have HHJ := Aside0.mk HI.out.2.2.1
        clear HI HW HB
        obtain ⟨M, wd, rfl, rfl, rfl, hq16, HI, HW, HB⟩ := hrel
        by_cases hq0 : gk = 0
        · subst hq0
          have hxj := HCA.out wr HB.out j hjl
          obtain ⟨xj, hxj2⟩ := Int.eq_ofNat_of_zero_le (HWD.out j).1
          rw [hxj2] at hxj
          obtain ⟨H2, hH2⟩ := Int.eq_ofNat_of_zero_le (ev_nonneg (okd_drop HCN.out.ok (j + 1)) BW_pos)
          have HI2 : Aside0 (v / 16 ^ M = xj + 16 ^ 16 * H2 ∧ xj < 16 ^ 16 ∧ ev BW (l.drop (j + 1)) = (H2 : Int) ∧ 0 < v / 16 ^ M) := ⟨by
            have h1 := HI.out
            rw [Nat.pow_zero, Nat.one_mul] at h1
            have h2 := HHJ.out
            rw [List.drop_eq_getElem_cons hjl, ev_cons, hH2, BW_def] at h2
            have h3 : l[j] = (xj : Int) := by rw [← hxj2, List.getD_eq_getElem?_getD, List.getElem?_eq_getElem hjl]; rfl
            rw [h3] at h2
            have h4 := (HWD.out j).2
            rw [hxj2, BW_def] at h4
            have h5 := HHP.out
            exact ⟨by omega, by omega, hH2, by omega⟩⟩
          have hge0 : ¬ s4 ≤ 0 := by have := HS4.out; omega
          have hge0i : ¬ (s4 : Int) ≤ 0 := by have := HS4.out; omega
          clear hxj2 hH2
          go_wp2_with (fail)
          go_roundg k'
          case measure => omega
          case rel => exact ⟨M, xj, H2, j + 1, rfl, rfl, rfl, by simp, by omega, by omega, HI2, HW, HB⟩
        · obtain ⟨q, hqq⟩ : ∃ q, gk = q + 1 := ⟨gk - 1, by omega⟩
          have hge : (s4 : Int) ≤ ((4 * gk : Nat) : Int) := by have := HS4.out; omega
          have hgew : IntKind.u64.wrap (((4 * gk : Nat) : Int) - (s4 : Int)) = ((4 * q : Nat) : Int) := by rw [IntKind.wrap_u64]; have := HS4.out; omega
          have hgen : s4 ≤ 4 * gk := by have := HS4.out; omega
          obtain ⟨g4, hg4⟩ : ∃ g4, g4 = 4 * gk := ⟨_, rfl⟩
          rw [← hg4] at hge hgew hgen ⊢
          have hgk2 := HI.out
          rw [hqq] at hgk2
          obtain ⟨s1, s2, s3⟩ := hex_step hgk2.1 hgk2.2
          have hMN : M < N := by
            refine Nat.lt_of_not_le fun hNM => ?_
            have h1 : v < 16 ^ M := Nat.lt_of_lt_of_le HVN.out (Nat.pow_le_pow_right (by omega) hNM)
            have h2 := HHP.out
            have h3 := hgk2.1
            rw [Nat.div_eq_of_lt h1] at h3
            have h4 := Nat.mul_pos (Nat.pow_pos (n := q + 1) (show 0 < 16 by omega)) h2
            omega
          have hwd64 : wd < 18446744073709551616 := Nat.lt_of_lt_of_le hgk2.2 (c16_lt (by omega))
          obtain ⟨I, hI⟩ : ∃ I, I = N - M - 1 := ⟨_, rfl⟩
          have hI1 : ((N - M : Nat) : Int) - 1 = (I : Int) := by omega
          have hI1w : IntKind.i64.wrap (I : Int) = (I : Int) := IntWalk.i64_in _ (by omega)
          have hIN : I < N := by omega
          obtain ⟨y, hcy, hfy, lgy⟩ := HW.out.cell I hIN
          obtain ⟨dd, hdd⟩ : ∃ dd, dd = wd % 16 := ⟨_, rfl⟩
          have hand := and15 wd hwd64
          rw [← hdd] at hand
          have hdd16 : dd < 16 := by omega
          have hdd62 : (dd : Int) < 62 := by omega
          have hdd62n : dd < 62 := by omega
          have hdsz : dd < dgs.size := hdd62n
          obtain ⟨cb, hcb⟩ : ∃ cb : Int, cb = ((dgs[dd]'hdsz).toNat : Int) := ⟨_, rfl⟩
          have hcf : cb = fig dd := by rw [hcb]; exact dgs_fig dd hdd16 hdsz
          have HW2 := Aside0.mk (HW.out.next hMN cb (by rw [hcf, s1, ← hdd]))
          rw [← hI] at HW2
          have HB2 := Aside0.mk (HB.out.setCell (p := ⟨gs, I, none⟩) (by have := HGS.out; show w.heap.size ≤ gs; omega) (.int .u8 cb))
          have hcb2 : ∀ h : dd < 62, (((⟨#[48, 49, 50, 51, 52, 53, 54, 55, 56, 57, 97, 98, 99, 100, 101, 102, 103, 104, 105, 106, 107, 108, 109, 110, 111, 112, 113, 114, 115, 116, 117, 118, 119, 120, 121, 122, 65, 66, 67, 68, 69, 70, 71, 72, 73, 74, 75, 76, 77, 78, 79, 80, 81, 82, 83, 84, 85, 86, 87, 88, 89, 90]⟩ : ByteArray)[dd]'h).toNat : Int) = cb := fun h => hcb.symm
          have HI2 : Aside0 (v / 16 ^ (M + 1) = wd / 16 + 16 ^ q * H ∧ wd / 16 < 16 ^ q) := ⟨by rw [Nat.pow_succ, ← Nat.div_div_eq_div_mul]; exact ⟨s2, s3⟩⟩
          have hNM1 : N - (M + 1) = I := by omega
          have HNM1 := Aside0.mk hNM1
          have HQ := Aside0.mk hqq
          have hq16' : q ≤ 16 := by omega
          have hdiv2 : (wd : Int) / 2 ^ s4 = ((wd / 16 : Nat) : Int) := by rw [HS4.out]; omega
          clear hgk2 s1 s2 s3 hI hdd hNM1 hqq hg4 hq0 hcb hcf
          go_wp2_with (fail)
          go_roundg q
          case measure => have := HQ.out; omega
          case rel => exact ⟨M + 1, wd / 16, by rw [HNM1.out], by first | rfl | simp, by first | rfl | simp, hq16', HI2, HW2, HB2⟩
    · have hjl2 : ¬ (j : Int) < (l.length : Int) := by omega
      have hH0 : Aside0 (H = 0) := ⟨by
        have h := HI.out.2.2.1
        rw [List.drop_eq_nil_of_le (by omega), ev_nil] at h
        omega⟩
      have HI2 : Aside0 (v / 16 ^ M = wd ∧ (0 < wd ∨ (0 < M ∧ 16 ^ (M - 1) ≤ v))) := ⟨by
        have h1 := HI.out.1
        have h2 := HI.out.2.2.2
        rw [hH0.out, Nat.mul_zero, Nat.add_zero] at h1
        exact ⟨h1, .inl (by omega)⟩⟩
      have hwd64 : wd < 18446744073709551616 := Nat.lt_of_lt_of_le HI.out.2.1 (c16_lt (by omega))
      clear HI
      go_wp2_with (fail)
      go_loopg [7, 12] wd (fun q v7 v12 wr => ∃ (M : Nat), v7 = .int .i64 ((N - M : Nat) : Int) ∧ v12 = .int .u64 (q : Int) ∧ q < 18446744073709551616 ∧ Aside0 (v / 16 ^ M = q ∧ (0 < q ∨ (0 < M ∧ 16 ^ (M - 1) ≤ v))) ∧ Aside0 (Wh wr gs N M v) ∧ Aside0 (Below w.heap.size w wr))
      case atStart => exact ⟨M, rfl, rfl, hwd64, HI2, HW, HB⟩
      case round =>
        clear HI2 HW HB hwd64
        obtain ⟨M, rfl, rfl, hwd64, HI, HW, HB⟩ := hrel
        by_cases hq0 : gk = 0
        · subst hq0
          have HM : Aside0 (0 < M ∧ M ≤ N ∧ figs 16 v = lows 16 M v) := ⟨by
            obtain ⟨h1, h2⟩ := HI.out
            have h3 : 0 < M ∧ 16 ^ (M - 1) ≤ v := by
              rcases h2 with h | h
              · omega
              · exact h
            have h4 : v < 16 ^ M := by
              rcases (Nat.div_eq_zero_iff).1 h1 with h | h
              · have := Nat.pow_pos (n := M) (show 0 < 16 by omega); omega
              · exact h
            exact ⟨h3.1, HW.out.1, figs_low 16 M v (by omega) (by omega) h3.2 h4 h3.1⟩⟩
          obtain ⟨I, hI⟩ : ∃ I, I = N - M := ⟨_, rfl⟩
          rw [← hI]
          have hIN : I ≤ N := by omega
          have hNI : ¬ N = I := by have := HM.out; omega
          have HUP : Aside0 (UP w (figs 16 v) (.returned (.slice (some ⟨gs, I, none⟩) (N - I) (N - I))) wr) := ⟨by
            obtain ⟨h0, Y, h1, h2⟩ := HW.out
            have hlen : (figs 16 v).length = N - I := by rw [HM.out.2.2, lows_len]; have := HM.out; omega
            refine ⟨gs, I, Y ++ lows 16 M v, N - I, by rw [hlen], h2, ?_, ?_, by omega, by have := HGS.out; omega, HB.out⟩
            · rw [HM.out.2.2, List.drop_append_of_le_length (by omega), List.drop_eq_nil_of_le (by omega), List.nil_append]
            · rw [List.length_append, lows_len]; have := HM.out; omega⟩
          clear hI
          go_wp2_with (fail)
          refine ⟨_, results_tmp rfl _ _ _, ?_⟩
          exact HUP.out
        · have hgb : ((gk : Int) == 0) = false := by rw [beq_eq_false_iff_ne]; omega
          have hgb2 : ((gk : Int) != 0) = true := by rw [bne, hgb]; rfl
          have hMN : M < N := by
            refine Nat.lt_of_not_le fun hNM => ?_
            have h1 : v < 16 ^ M := Nat.lt_of_lt_of_le HVN.out (Nat.pow_le_pow_right (by omega) hNM)
            have h3 := HI.out.1
            rw [Nat.div_eq_of_lt h1] at h3
            omega
          obtain ⟨I, hI⟩ : ∃ I, I = N - M - 1 := ⟨_, rfl⟩
          have hI1 : ((N - M : Nat) : Int) - 1 = (I : Int) := by omega
          have hI1w : IntKind.i64.wrap (I : Int) = (I : Int) := IntWalk.i64_in _ (by omega)
          have hIN : I < N := by omega
          obtain ⟨y, hcy, hfy, lgy⟩ := HW.out.cell I hIN
          obtain ⟨dd, hdd⟩ : ∃ dd, dd = gk % 16 := ⟨_, rfl⟩
          have hand := and15 gk hwd64
          rw [← hdd] at hand
          have hdd16 : dd < 16 := by omega
          have hdd62 : (dd : Int) < 62 := by omega
          have hdd62n : dd < 62 := by omega
          have hdsz : dd < dgs.size := hdd62n
          obtain ⟨cb, hcb⟩ : ∃ cb : Int, cb = ((dgs[dd]'hdsz).toNat : Int) := ⟨_, rfl⟩
          have hcf : cb = fig dd := by rw [hcb]; exact dgs_fig dd hdd16 hdsz
          have HW2 := Aside0.mk (HW.out.next hMN cb (by rw [hcf, HI.out.1, ← hdd]))
          rw [← hI] at HW2
          have HB2 := Aside0.mk (HB.out.setCell (p := ⟨gs, I, none⟩) (by have := HGS.out; show w.heap.size ≤ gs; omega) (.int .u8 cb))
          have hcb2 : ∀ h : dd < 62, (((⟨#[48, 49, 50, 51, 52, 53, 54, 55, 56, 57, 97, 98, 99, 100, 101, 102, 103, 104, 105, 106, 107, 108, 109, 110, 111, 112, 113, 114, 115, 116, 117, 118, 119, 120, 121, 122, 65, 66, 67, 68, 69, 70, 71, 72, 73, 74, 75, 76, 77, 78, 79, 80, 81, 82, 83, 84, 85, 86, 87, 88, 89, 90]⟩ : ByteArray)[dd]'h).toNat : Int) = cb := fun h => hcb.symm
          have HI2 : Aside0 (v / 16 ^ (M + 1) = gk / 16 ∧ (0 < gk / 16 ∨ (0 < M + 1 ∧ 16 ^ (M + 1 - 1) ≤ v))) := ⟨by
            have h1 := HI.out.1
            refine ⟨by rw [Nat.pow_succ, ← Nat.div_div_eq_div_mul, h1], .inr ⟨by omega, ?_⟩⟩
            rw [Nat.add_sub_cancel]
            refine Nat.le_of_not_lt fun hlt => ?_
            rw [Nat.div_eq_of_lt hlt] at h1
            omega⟩
          have HNM1 : Aside0 (N - (M + 1) = I) := ⟨by omega⟩
          have hdiv2 : (gk : Int) / 2 ^ s4 = ((gk / 16 : Nat) : Int) := by rw [HS4.out]; omega
          have hq64 : gk / 16 < 18446744073709551616 := by omega
          have hqlt : gk / 16 < gk := by omega
          clear hI hdd hq0 hcb hcf
          go_wp2_with (fail)
          go_roundg (gk / 16)
          case measure => exact hqlt
          case rel => exact ⟨M + 1, by rw [HNM1.out], by first | rfl | simp, hq64, HI2, HW2, HB2⟩
set_option maxRecDepth 100000 in
theorem utoa16_c (V : Value) (v : Nat) (w : World) (h : Wd w V (v : Int)) (h0 : 0 < v) (hb : Fit v) (hTb : Tb w) :
    Calls Tryz.prog 69 #[V, .int .i64 16] w (UP w (figs 16 v)) := by
  have HI := Aside0.mk (itoa16_c V v w h h0 hb hTb)
  obtain ⟨A, c, l, rfl, _⟩ := h
  go_enter Tryz.func69, Tryz.ntmps69
  go_wp2_with (go_at_call 98; refine HI.out.mono ?_; rintro e w1 ⟨g, o, Z, c2, rfl, h1⟩; have H1 := Aside0.mk h1; clear h1)
  go_ret
  exact ⟨g, o, Z, c2, rfl, H1.out⟩
end Go.Proofs.YtfnknldbjckgoaaGreatDoor.Sp
