/-
  CONTRACT of fmtP at a finite Float.
-/
import Derived.Test.YtfnknldbjckgoaaGreatDoorZUtoaH
import Derived.Test.YtfnknldbjckgoaaGreatDoorZGtxb
import Derived.Deep.CutBlock
import Derived.Deep.LoopGhost
namespace Go.Proofs.YtfnknldbjckgoaaGreatDoor.Sp
open Go.RowKit Go.Proofs.YtfnknldbjckgoaaGreatDoorW.PrintWords Go.Proofs.YtfnknldbjckgoaaGreatDoorW.PrintLast Go.Proofs.YtfnknldbjckgoaaGreatDoorW.PrintMore Go.Proofs.YtfnknldbjckgoaaGreatDoor.Dig
set_option linter.unusedVariables false
set_option linter.unusedSimpArgs false
set_option maxHeartbeats 1600000 in
set_option maxRecDepth 100000 in
theorem trimRB_c (g o c : Nat) (l : List Int) (w : World) (hc : ∀ j, j < l.length → w.cell? ⟨g, o + j, none⟩ = some (.int .u8 (l.getD j 0))) (hl : l.length ≤ c) (hb : l.length ≤ 1000) (h0 : rz l ≠ []) :
    Calls Tryz.prog 100 #[.slice (some ⟨g, o, none⟩) l.length c, .int .u8 48] w fun e w' => e = .returned (.slice (some ⟨g, o, none⟩) (rz l).length c) ∧ w = w' := by
  have HC := Aside0.mk hc
  have HZ0 := Aside0.mk h0
  obtain ⟨rl, hrl⟩ : ∃ rl, rl = (rz l).length := ⟨_, rfl⟩
  have HRL := Aside0.mk hrl
  rw [← hrl]
  clear hc h0 hrl
  go_enter Tryz.func100, Tryz.ntmps100
  go_wp2_with (fail)
  go_loopg [0] l.length (fun k v0 wr => ∃ n : Nat, k = n ∧ n ≤ l.length ∧ v0 = .slice (some ⟨g, o, none⟩) n c ∧ Aside0 (∀ j : Nat, n ≤ j → j < l.length → l.getD j 0 = (48 : Int)) ∧ w = wr)
  case atStart => exact ⟨l.length, rfl, Nat.le_refl _, rfl, ⟨fun j h1 h2 => by omega⟩, rfl⟩
  case round =>
    obtain ⟨n, rfl, hn, rfl, HZ, rfl⟩ := hrel
    by_cases hn0 : gk = 0
    · subst hn0
      exact absurd (rz_of l 0 (Nat.zero_le _) HZ.out (.inl rfl)).symm (by rw [List.take_zero]; exact HZ0.out)
    · obtain ⟨q, hq⟩ : ∃ q, gk = q + 1 := ⟨gk - 1, by omega⟩
      have hcq := HC.out q (by omega)
      obtain ⟨x, hx⟩ : ∃ x, x = l.getD q 0 := ⟨_, rfl⟩
      rw [← hx] at hcq
      have HX := Aside0.mk hx
      have HQ := Aside0.mk hq
      have hq1 : (gk : Int) - 1 = (q : Int) := by omega
      have hq1w : IntKind.i64.wrap (q : Int) = (q : Int) := IntWalk.i64_in _ (by omega)
      have hg0 : 0 < gk := by omega
      have hg0i : (0 : Int) < (gk : Int) := by omega
      have hg0b : ((gk : Int) == 0) = false := by rw [beq_eq_false_iff_ne]; omega
      have hqc : q ≤ c := by omega
      have hq155 : q < 1000 := by omega
      have hqg : q < gk := by omega
      by_cases h48 : x = 48
      · subst h48
        clear hq hx
        go_wp2_with (fail)
        go_roundg q
        case measure => exact hqg
        case rel => exact ⟨q, rfl, by omega, rfl, ⟨fun j h1 h2 => by
          rcases Nat.lt_or_ge q j with h3 | h3
          · exact HZ.out j (by have := HQ.out; omega) h2
          · obtain rfl : j = q := by omega
            exact HX.out.symm⟩, rfl⟩
      · have hxb : (x == 48) = false := by rw [beq_eq_false_iff_ne]; exact h48
        have hrg : rl = gk := by
          have h := rz_of l gk hn HZ.out (.inr (by rw [hq, Nat.add_sub_cancel, ← hx]; exact h48))
          rw [HRL.out, ← h, List.length_take]
          omega
        have HRG := Aside0.mk hrg
        clear hq hx hrg
        go_wp2_with (fail)
        go_ret
        exact ⟨by rw [HRG.out]; rfl, rfl⟩
set_option maxHeartbeats 1600000 in
set_option maxRecDepth 100000 in
theorem trimR_c (g o c : Nat) (l : List Int) (w : World) (hc : ∀ j, j < l.length → w.cell? ⟨g, o + j, none⟩ = some (.int .u8 (l.getD j 0))) (hl : l.length ≤ c) (hb : l.length ≤ 1000) (h0 : rz l ≠ []) :
    Calls Tryz.prog 71 #[.slice (some ⟨g, o, none⟩) l.length c, .string ⟨#[48]⟩] w fun e w' => e = .returned (.slice (some ⟨g, o, none⟩) (rz l).length c) ∧ w = w' := by
  have HT := Aside0.mk (trimRB_c g o c l w hc hl hb h0)
  have hl0 : ((l.length : Int) == 0) = false := by
    rw [beq_eq_false_iff_ne]
    intro h
    have : l = [] := List.eq_nil_of_length_eq_zero (by omega)
    rw [this] at h0
    exact h0 rfl
  clear hc h0
  go_enter Tryz.func71, Tryz.ntmps71
  go_wp2_with (go_at_call 100; refine HT.out.mono ?_; rintro e w1 ⟨rfl, rfl⟩)
  go_ret
  exact ⟨rfl, rfl⟩
/-- The noughts at the head of a mantissa. -/
theorem lead_zero (L : List Int) (h : 0 < ev BW L) (hok : okd BW L) : ∃ i, i < L.length ∧ (∀ j, j < i → L.getD j 0 = 0) ∧ L.getD i 0 ≠ 0 ∧ ev BW L = BW ^ i * ev BW (L.drop i) := by
  induction L with
  | nil => rw [ev_nil] at h; omega
  | cons a t ih =>
    by_cases ha : a = 0
    · subst ha
      have h2 : 0 < ev BW t := by
        rw [ev_cons, Int.zero_add] at h
        exact Int.pos_of_mul_pos_right h (by rw [BW_def]; omega)
      obtain ⟨i, h3, h4, h5, h6⟩ := ih h2 (okd_cons.1 hok).2
      refine ⟨i + 1, by simp; omega, fun j hj => ?_, by simpa using h5, ?_⟩
      · cases j with
        | zero => rfl
        | succ j => simpa using h4 j (by omega)
      · rw [ev_cons, Int.zero_add, List.drop_succ_cons, h6, Int.pow_succ]
        rw [Int.mul_comm (BW ^ i) BW, Int.mul_assoc]
    · exact ⟨0, by simp, fun j hj => by omega, by simpa using ha, by simp⟩
/-- The plain facts of fmtP: V the mantissa without the noughts at its head. -/
structure PPre (L : List Int) (vN b i V : Nat) : Prop where
  lt : i < L.length
  zero : ∀ j, j < i → L.getD j 0 = 0
  non : L.getD i 0 ≠ 0
  ev : ev BW (L.drop i) = (V : Int)
  pos : 0 < V
  fit : Fit V
  figs : rz (figs 16 V) = rz (figs 16 (vN * 2 ^ ((4 - b % 4) % 4)))
theorem ppre {L : List Int} {vN b p : Nat} (hC : Canon p L) (hev : ev BW L = (vN : Int) * 2 ^ (64 * L.length - b)) (hv0 : 0 < vN) (hb : b ≤ 64 * L.length) (hl : L.length ≤ 8) : ∃ i V, PPre L vN b i V := by
  obtain ⟨i, h1, h2, h3, h4⟩ := lead_zero L hC.V_pos hC.ok
  obtain ⟨V, hV⟩ := Int.eq_ofNat_of_zero_le (ev_nonneg (okd_drop hC.ok i) BW_pos)
  have hVp : 0 < V := by
    rcases Nat.eq_zero_or_pos V with h | h
    · have := hC.V_pos
      rw [h4, hV, h] at this
      simp at this
    · exact h
  refine ⟨i, V, h1, h2, h3, hV, hVp, ?_, ?_⟩
  · have h5 := ev_lt (okd_drop hC.ok i) BW_pos
    have h6 : BW ^ (L.drop i).length ≤ BW ^ 8 := pow_mono BW_pos (by rw [List.length_drop]; omega)
    rw [hV] at h5
    have h7 : (V : Int) < BW ^ 8 := by omega
    rw [BW8] at h7
    exact Int.ofNat_lt.1 h7
  · refine rz_words vN b L.length i V hv0 hb ?_
    rw [hV, hev, BW_two, ← Int.pow_mul] at h4
    have h8 : ((vN * 2 ^ (64 * L.length - b) : Nat) : Int) = ((2 ^ (64 * i) * V : Nat) : Int) := by
      rw [Int.natCast_mul, Int.natCast_mul, Int.natCast_pow, Int.natCast_pow]
      exact h4
    have h9 := Int.ofNat_inj.1 h8
    rw [h9, Nat.mul_comm]
set_option maxHeartbeats 6400000 in
set_option maxRecDepth 100000 in
theorem fmtP_c (g p vN b : Nat) (m x : Int) (neg : Bool) (w0 W0 w : World) (v : Value) (l : List Int) (h : Own w0 W0 g p m neg (vN : Int) x b) (hv0 : 0 < vN) (hbits : Bits (vN : Int) b) (hbp : b ≤ p) (hp : p ≤ 448) (hx : -1000000 ≤ x ∧ x ≤ 1000000) (hb : Bu W0 w v l) (hl : l.length ≤ 1000000) (hT : Pw W0) (hTb : Tb W0) :
    Calls Tryz.prog 49 #[.pointer (some ⟨g, 0, none⟩), v] w (BuPost W0 (l ++ fmtPT vN b x)) := by
  obtain ⟨mb, L, R, c, hF, hC, hev, h64, hb64⟩ := h.flt
  have hl0 : 0 < L.length := hC.pos
  have hl8 : L.length ≤ 8 := by omega
  obtain ⟨i, V, hP⟩ := ppre hC hev hv0 hb64 hl8
  have HP := Aside0.mk hP
  have hlc := hF.lec
  have HFA : Aside0 (∀ W, Below W0.heap.size W0 W → Flt W g mb p m 0 1 neg L.length c ((b : Int) + x) (L ++ R)) := ⟨fun W hW => hF.below hW⟩
  have HTA : Aside0 (∀ W, Below W0.heap.size W0 W → Tb W) := ⟨fun W hW => hTb.kept (Kept.of_below (S := fun _ => False) hW) (fun h => h)⟩
  have HPW : Aside0 (Pw W0) := ⟨hT⟩
  have HCN : Aside0 (Canon p L) := ⟨hC⟩
  have HB := Aside0.mk hb
  have hFw := HFA.out w hb.bel
  obtain ⟨c0, c1, c2, c3, c4, c5, c6, f0, f1, f2, f3, f4, f5, f6⟩ := blk7 hFw.flt
  have lg := hp_lt hFw.flt
  have HCC : Aside0 (∀ j, j < L.length → w.cell? ⟨mb, j, none⟩ = some (.int .u64 (L.getD j 0))) := ⟨fun j hj => row_at hFw.mant j hj⟩
  have HRW : Aside0 (∀ W, Below W0.heap.size W0 W → Kd.C (Kd.int .u64) W (some ⟨mb, i, none⟩) (L.length - i) (L.drop i)) := ⟨fun W hW => by
    have h1 := (HFA.out W hW).C
    rw [List.take_left' rfl] at h1
    have h2 := C_sub h1 i (L.length - i) (by have := hP.lt; omega)
    rw [List.take_of_length_le (by rw [List.length_drop]; omega), add_spot, Nat.zero_add, List.length_drop] at h2
    exact h2⟩
  obtain ⟨F, hFg⟩ : ∃ F, F = rz (figs 16 (vN * 2 ^ ((4 - b % 4) % 4))) := ⟨_, rfl⟩
  obtain ⟨Xe, hXe⟩ : ∃ Xe : Int, Xe = (b : Int) + x := ⟨_, rfl⟩
  have HTX : Aside0 (fmtPT vN b x = [48, 120, 46] ++ F ++ [112] ++ (if 0 ≤ Xe then [43] else []) ++ itoaI Xe) := ⟨by rw [hFg, hXe]; rfl⟩
  obtain ⟨TX, hTX⟩ : ∃ TX, TX = fmtPT vN b x := ⟨_, rfl⟩
  rw [← hTX] at HTX ⊢
  have HFG : Aside0 (F = rz (figs 16 V)) := ⟨by rw [hFg, hP.figs]⟩
  have HFL : Aside0 ((figs 16 V).length ≤ 150) := ⟨figs_len 16 150 V (by omega) (Nat.lt_of_lt_of_le hP.fit (by decide +kernel))⟩
  have HFN : Aside0 (rz (figs 16 V) ≠ []) := ⟨by
    have h1 := figs_ne 16 V (by omega) (by omega) hP.pos
    obtain ⟨c', t, hct⟩ : ∃ c' t, figs 16 V = c' :: t := by
      cases hf : figs 16 V with
      | nil => exact absurd hf h1
      | cons a t => exact ⟨a, t, rfl⟩
    have h2 : c' ≠ 48 := by
      intro h3
      have h4 := lz_head (lows 16 (V.log2 + 1) V)
      rw [show lz (lows 16 (V.log2 + 1) V) = figs 16 V from rfl, hct, h3] at h4
      exact h4 rfl
    obtain ⟨t2, ht2⟩ := rz_head c' t h2
    rw [hct, ht2]
    simp⟩
  rw [← hXe] at HFA c6
  have hw1 : IntKind.i64.wrap Xe = Xe := IntWalk.i64_in _ (by omega)
  have hE9 : -2000000 ≤ Xe ∧ Xe ≤ 2000000 := by omega
  obtain ⟨l0, hl0'⟩ : ∃ l0, l0 = l ++ [48, 120, 46] := ⟨_, rfl⟩
  obtain ⟨l1, hl1⟩ : ∃ l1, l1 = l0 ++ F := ⟨_, rfl⟩
  obtain ⟨l2, hl2⟩ : ∃ l2, l2 = l1 ++ [112] := ⟨_, rfl⟩
  have HL0 := Aside0.mk hl0'
  have HL1 := Aside0.mk hl1
  have HL2 := Aside0.mk hl2
  have HN := Aside0.mk hl
  have HN0 : Aside0 (l0.length ≤ 1000003) := ⟨by rw [hl0', List.length_append]; simp; omega⟩
  have HFF : Aside0 (F.length ≤ 150) := ⟨by have := rz_len (figs 16 V); rw [HFG.out]; have := HFL.out; omega⟩
  have HN1 : Aside0 (l1.length ≤ 1000153) := ⟨by rw [hl1, List.length_append]; have := HN0.out; have := HFF.out; omega⟩
  have HN2 : Aside0 (l2.length ≤ 1000154) := ⟨by have := HN1.out; rw [hl2, List.length_append]; simp; omega⟩
  obtain ⟨A0, n0, k0, rfl⟩ : ∃ A n k, v = .slice A n k := by
    obtain ⟨A, k, h1, _⟩ := hb.slice
    exact ⟨A, _, k, h1⟩
  have hil : i < L.length := hP.lt
  have hic : i ≤ c := by omega
  have hcni : ¬ c = i := by omega
  have HDL : Aside0 ((L.drop i).length = L.length - i) := ⟨List.length_drop⟩
  clear hl1 hl2 hl0' hXe hl h hF hC hev hP hT hTb hb hFw hTX hbits hv0 hFg h64 hb64
  go_enter Tryz.func49, Tryz.ntmps49
  go_wp2_with (fail)
  go_loopg [6] (i) (fun k v6 wr => ∃ j : Nat, j + k = i ∧ v6 = .int .i64 (j : Int) ∧ w = wr)
  case atStart => exact ⟨0, by omega, rfl, rfl⟩
  case round =>
    obtain ⟨j, hji, rfl, rfl⟩ := hrel
    have hjl : j < L.length := by omega
    have hcj := HCC.out j hjl
    have hj8 : j < 8 := by omega
    have hjw : IntKind.i64.wrap (j : Int) = (j : Int) := IntWalk.i64_in _ (by omega)
    have hjli : (j : Int) < (L.length : Int) := by omega
    by_cases hlt : j < i
    · have hz := HP.out.zero j hlt
      rw [hz] at hcj
      obtain ⟨k', rfl⟩ : ∃ k', gk = k' + 1 := ⟨gk - 1, by omega⟩
      have hjw1 : IntKind.i64.wrap ((j : Int) + 1) = ((j + 1 : Nat) : Int) := by rw [IntWalk.i64_in _ (by omega)]; omega
      go_wp2_with (fail)
      go_roundg k'
      case measure => omega
      case rel => exact ⟨j + 1, by omega, by simp, rfl⟩
    · obtain rfl : j = i := by omega
      have hnz := HP.out.non
      obtain ⟨xi, hxi⟩ : ∃ xi, xi = L.getD j 0 := ⟨_, rfl⟩
      rw [← hxi] at hcj hnz
      have hxb : (xi == 0) = false := by rw [beq_eq_false_iff_ne]; exact hnz
      clear hxi hnz
      go_wp2_with (with_reducible refine bu_str rfl _ _ 9 rfl Tryz.underlying9 W0 (.slice A0 n0 k0) l rfl ?h1 ⟨#[48, 120, 46]⟩ rfl ?h2 ?h3)
      case h1 => exact HB.out
      case h2 => exact Nat.le_trans (Nat.add_le_add_right HN.out _) (by decide)
      case h3 =>
        intro v1 w1 hb1
        have HB1 : Aside0 (Bu W0 w1 v1 l0) := ⟨by rw [HL0.out]; exact hb1⟩
        clear hb1 c0 c1 c2 c3 c4 c5 c6 f0 f1 f2 f3 f4 f5 f6 lg hcj
        obtain ⟨c0, c1, c2, c3, c4, c5, c6, f0, f1, f2, f3, f4, f5, f6⟩ := blk7 (HFA.out w1 HB1.out.bel).flt
        have lg := hp_lt (HFA.out w1 HB1.out.bel).flt
        have HU := Aside0.mk (utoa16_c (.slice (some ⟨mb, j, none⟩) (L.length - j) (c - j)) V w1 ⟨_, c - j, L.drop j, by rw [HDL.out], by rw [HDL.out]; omega, by rw [HDL.out]; exact HRW.out w1 HB1.out.bel, by
          have h2 : ∀ (q : Nat) (L : List Int), Cn BW L → Cn BW (L.drop q) := fun q => by
            induction q with
            | zero => intro L h; exact h
            | succ q ih =>
              intro L h
              cases L with
              | nil => exact h
              | cons a t => exact ih t (Cn_tail h)
          exact h2 j L HCN.out.cn, HP.out.ev⟩ HP.out.pos HP.out.fit (HTA.out w1 HB1.out.bel))
        go_wp2_with (go_at_call 69; refine HU.out.mono ?_; rintro e w2 ⟨g1, o1, Z1, c1', rfl, hbr, hdr, hoz, hlc1, hg1, hbl⟩; have HUC := Aside0.mk (up_cells hbr hdr hoz); have HBL := Aside0.mk hbl; have HLC := Aside0.mk hlc1; clear hbr hdr hoz hbl hg1)
        have HTR := Aside0.mk (trimR_c g1 o1 c1' (figs 16 V) w2 (fun j hj => by have := HUC.out j hj; rwa [add_spot] at this) HLC.out (by have := HFL.out; omega) HFN.out)
        rw [← HFG.out] at HTR
        have HFC : Aside0 (∀ j, j < F.length → w2.cell? ((⟨g1, o1, none⟩ : Addr).add j) = some (.int .u8 (F.getD j 0))) := ⟨fun j hj => by
          obtain ⟨q, hq⟩ := rz_pre (figs 16 V)
          rw [← HFG.out] at hq
          have h1 := HUC.out j (by rw [hq, List.length_append]; omega)
          rw [h1, hq]
          simp only [List.getD_eq_getElem?_getD]
          rw [List.getElem?_append_left hj]⟩
        have HB2 := Aside0.mk (HB1.out.below HBL.out)
        clear HUC HBL hlc1 HU
        go_wp2_with (first | (go_at_call 71; refine HTR.out.mono ?_; rintro e w3 ⟨rfl, rfl⟩) | (with_reducible refine bu_row rfl _ _ rfl W0 _ l0 F ⟨g1, o1, none⟩ c1' rfl ?k1 rfl ?k2 ?k3 ?k4) | fail)
        case k1 => exact HB2.out
        case k2 => exact HFC.out
        case k3 => exact Nat.le_trans (Nat.add_le_add HN0.out HFF.out) (by decide)
        case k4 =>
          intro v2 w4 hb2
          have HB3 : Aside0 (Bu W0 w4 v2 l1) := ⟨by rw [HL1.out]; exact hb2⟩
          clear hb2
          go_wp2_with (with_reducible refine bu_byte rfl _ _ rfl W0 v2 l1 112 rfl ?j1 rfl ?j2 ?j3)
          case j1 => exact HB3.out
          case j2 => exact Nat.le_trans HN1.out (by decide)
          case j3 =>
            intro v3 w5 hb3
            have HB4 : Aside0 (Bu W0 w5 v3 l2) := ⟨by rw [HL2.out]; exact hb3⟩
            clear hb3 c0 c1 c2 c3 c4 c5 c6 f0 f1 f2 f3 f4 f5 f6 lg
            obtain ⟨c0, c1, c2, c3, c4, c5, c6, f0, f1, f2, f3, f4, f5, f6⟩ := blk7 (HFA.out w5 HB4.out.bel).flt
            have lg := hp_lt (HFA.out w5 HB4.out.bel).flt
            by_cases hE0 : 0 ≤ Xe
            · have HTE : Aside0 (l ++ TX = l2 ++ [43] ++ itoaI Xe) := ⟨by rw [HTX.out, if_pos hE0, HL2.out, HL1.out, HL0.out]; simp only [List.append_assoc]⟩
              have hge : decide (0 ≤ Xe) = true := decide_eq_true hE0
              obtain ⟨l3, hl3⟩ : ∃ l3, l3 = l2 ++ [43] := ⟨_, rfl⟩
              have HL3 := Aside0.mk hl3
              have HN3 : Aside0 (l3.length ≤ 1000157) := ⟨by have := HN2.out; rw [hl3, List.length_append]; simp only [List.length_cons, List.length_nil]; omega⟩
              clear hl3
              go_wp2_with (with_reducible refine bu_byte rfl _ _ rfl W0 v3 l2 43 rfl ?m1 rfl ?m2 ?m3)
              case m1 => exact HB4.out
              case m2 => exact Nat.le_trans HN2.out (by decide)
              case m3 =>
                intro v4 w6 hb4
                have HB5 : Aside0 (Bu W0 w6 v4 l3) := ⟨by rw [HL3.out]; exact hb4⟩
                clear hb4 c0 c1 c2 c3 c4 c5 c6 f0 f1 f2 f3 f4 f5 f6 lg
                obtain ⟨c0, c1, c2, c3, c4, c5, c6, f0, f1, f2, f3, f4, f5, f6⟩ := blk7 (HFA.out w6 HB5.out.bel).flt
                have lg := hp_lt (HFA.out w6 HB5.out.bel).flt
                have HAI := Aside0.mk (appI_c W0 w6 v4 l3 Xe HB5.out HPW.out (by omega) (Nat.le_trans HN3.out (by decide)))
                go_wp2_with (go_at_call 70; refine HAI.out.mono ?_; rintro e w7 ⟨v5, rfl, hb5⟩; have HB6 := Aside0.mk hb5; clear hb5)
                go_ret
                exact ⟨_, rfl, by rw [HTE.out, ← HL3.out]; exact HB6.out⟩
            · have HTE : Aside0 (l ++ TX = l2 ++ itoaI Xe) := ⟨by rw [HTX.out, if_neg hE0, HL2.out, HL1.out, HL0.out, List.append_nil]; simp only [List.append_assoc]⟩
              have hge : decide (0 ≤ Xe) = false := decide_eq_false hE0
              have HAI := Aside0.mk (appI_c W0 w5 v3 l2 Xe HB4.out HPW.out (by omega) (Nat.le_trans HN2.out (by decide)))
              go_wp2_with (go_at_call 70; refine HAI.out.mono ?_; rintro e w6 ⟨v4, rfl, hb4⟩; have HB5 := Aside0.mk hb4; clear hb4)
              go_ret
              exact ⟨_, rfl, by rw [HTE.out]; exact HB5.out⟩
end Go.Proofs.YtfnknldbjckgoaaGreatDoor.Sp
