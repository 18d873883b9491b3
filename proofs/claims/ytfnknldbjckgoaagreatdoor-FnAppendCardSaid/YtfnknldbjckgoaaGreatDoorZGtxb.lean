/-
  MERGED BY PROGRAM (regroup.py): TextZ, AppI, FmtB, TextA.
-/
import Derived.Test.YtfnknldbjckgoaaGreatDoorZGexa
import Derived.Test.YtfnknldbjckgoaaGreatDoorZBuf
import Derived.Test.YtfnknldbjckgoaaGreatDoorZGuto
import Derived.Test.YtfnknldbjckgoaaGreatDoorZGdec
import Derived.Test.YtfnknldbjckgoaaGreatDoorZShelf
import Derived.Deep.CutBlock
import Derived.Deep.LoopGhost
/-! ## TextZ -/
section
namespace Go.Proofs.YtfnknldbjckgoaaGreatDoor.Sp
open Go.RowKit Go.Proofs.YtfnknldbjckgoaaGreatDoorW.PrintWords Go.Proofs.YtfnknldbjckgoaaGreatDoorW.PrintLast Go.Proofs.YtfnknldbjckgoaaGreatDoorW.PrintMore Go.Proofs.YtfnknldbjckgoaaGreatDoor.Dig
set_option linter.unusedVariables false
set_option linter.unusedSimpArgs false
/-- The call hands back v' with the bytes l in it. -/
def BuPost (W0 : World) (l : List Int) (e : Ending) (w' : World) : Prop := ∃ v', e = .returned v' ∧ Bu W0 w' v' l
theorem small0 (w : World) : Calls Tryz.prog 146 #[.int .i64 0] w fun e w' => e = .returned (.string ⟨#[48]⟩) ∧ w' = w := by
  go_enter Tryz.func146, Tryz.ntmps146
  go_wp2_with (fail)
  go_ret
  exact ⟨rfl, rfl⟩
set_option maxHeartbeats 1600000 in
set_option maxRecDepth 100000 in
theorem appU0 (W0 w : World) (v : Value) (l : List Int) (hb : Bu W0 w v l) (hl : l.length ≤ 10000000) : Calls Tryz.prog 124 #[v, .int .u64 0, .int .i64 10] w (BuPost W0 (l ++ [48])) := by
  have HB := Aside0.mk hb
  clear hb
  go_enter Tryz.func124, Tryz.ntmps124
  go_wp2_with (first | (go_at_call 146; refine (small0 _).mono ?_; rintro e w' ⟨rfl, rfl⟩) | (with_reducible refine bu_str rfl _ _ 9 rfl Tryz.underlying9 W0 v l rfl ?k1 ⟨#[48]⟩ rfl ?k2 ?k3) | fail)
  case k1 => exact HB.out
  case k2 => exact Nat.le_trans (Nat.add_le_add_right hl _) (by decide)
  case k3 =>
    intro v1 w1 hb1
    have HB1 := Aside0.mk hb1
    clear hb1
    go_wp2_with (fail)
    go_ret
    exact ⟨_, rfl, HB1.out⟩
set_option maxHeartbeats 1600000 in
set_option maxRecDepth 100000 in
theorem appI0' (W0 w : World) (v : Value) (l : List Int) (hb : Bu W0 w v l) (hl : l.length ≤ 10000000) : Calls Tryz.prog 99 #[v, .int .i64 0, .int .i64 10] w (BuPost W0 (l ++ [48])) := by
  have HA := Aside0.mk (appU0 W0 w v l hb hl)
  clear hb
  go_enter Tryz.func99, Tryz.ntmps99
  go_wp2_with (go_at_call 124; refine HA.out.mono ?_; rintro e w1 ⟨v1, rfl, hb1⟩; have HB1 := Aside0.mk hb1; clear hb1)
  go_ret
  exact ⟨_, rfl, HB1.out⟩
set_option maxHeartbeats 1600000 in
set_option maxRecDepth 100000 in
theorem appI0 (W0 w : World) (v : Value) (l : List Int) (hb : Bu W0 w v l) (hl : l.length ≤ 10000000) : Calls Tryz.prog 70 #[v, .int .i64 0, .int .i64 10] w (BuPost W0 (l ++ [48])) := by
  have HA := Aside0.mk (appI0' W0 w v l hb hl)
  clear hb
  go_enter Tryz.func70, Tryz.ntmps70
  go_wp2_with (go_at_call 99; refine HA.out.mono ?_; rintro e w1 ⟨v1, rfl, hb1⟩; have HB1 := Aside0.mk hb1; clear hb1)
  go_ret
  exact ⟨_, rfl, HB1.out⟩
set_option maxHeartbeats 1600000 in
set_option maxRecDepth 100000 in
theorem fmtB0 (g p : Nat) (m : Int) (neg : Bool) (W0 w : World) (v : Value) (l : List Int) (h : Spc w g p m 0 neg) (hb : Bu W0 w v l) (hl : l.length ≤ 1000000) :
    Calls Tryz.prog 48 #[.pointer (some ⟨g, 0, none⟩), v] w (BuPost W0 (l ++ [48])) := by
  have HB := Aside0.mk hb
  obtain ⟨c0, c1, c2, c3, c4, c5, c6, f0, f1, f2, f3, f4, f5, f6⟩ := blk7 h.blk
  have lg := hp_lt h.blk
  clear h hb
  go_enter Tryz.func48, Tryz.ntmps48
  go_wp2_with (with_reducible refine bu_byte rfl _ _ rfl W0 v l 48 rfl ?h1 rfl ?h2 ?h3)
  case h1 => exact HB.out
  case h2 => exact Nat.le_trans hl (by omega)
  case h3 =>
    intro v1 w1 hb1
    have HB1 := Aside0.mk hb1
    clear hb1
    go_wp2_with (fail)
    go_ret
    exact ⟨_, rfl, HB1.out⟩
set_option maxHeartbeats 1600000 in
set_option maxRecDepth 100000 in
theorem fmtP0 (g p : Nat) (m : Int) (neg : Bool) (W0 w : World) (v : Value) (l : List Int) (h : Spc w g p m 0 neg) (hb : Bu W0 w v l) (hl : l.length ≤ 1000000) :
    Calls Tryz.prog 49 #[.pointer (some ⟨g, 0, none⟩), v] w (BuPost W0 (l ++ [48])) := by
  have HB := Aside0.mk hb
  obtain ⟨c0, c1, c2, c3, c4, c5, c6, f0, f1, f2, f3, f4, f5, f6⟩ := blk7 h.blk
  have lg := hp_lt h.blk
  clear h hb
  go_enter Tryz.func49, Tryz.ntmps49
  go_wp2_with (with_reducible refine bu_byte rfl _ _ rfl W0 v l 48 rfl ?h1 rfl ?h2 ?h3)
  case h1 => exact HB.out
  case h2 => exact Nat.le_trans hl (by omega)
  case h3 =>
    intro v1 w1 hb1
    have HB1 := Aside0.mk hb1
    clear hb1
    go_wp2_with (fail)
    go_ret
    exact ⟨_, rfl, HB1.out⟩
/-- So many noughts behind a point. -/
def zt (k : Nat) : List Int := if k = 0 then [] else 46 :: List.replicate k 48
set_option maxHeartbeats 3200000 in
set_option maxRecDepth 100000 in
theorem fmtX0 (g p k : Nat) (m : Int) (neg : Bool) (W0 w : World) (v : Value) (l : List Int) (h : Spc w g p m 0 neg) (hb : Bu W0 w v l) (hl : l.length ≤ 1000000) (hk : k ≤ 1000000) :
    Calls Tryz.prog 50 #[.pointer (some ⟨g, 0, none⟩), v, .int .i64 (k : Int)] w (BuPost W0 (l ++ [48, 120, 48] ++ zt k ++ [112, 43, 48, 48])) := by
  have HB := Aside0.mk hb
  obtain ⟨c0, c1, c2, c3, c4, c5, c6, f0, f1, f2, f3, f4, f5, f6⟩ := blk7 h.blk
  have lg := hp_lt h.blk
  obtain ⟨l1, hl1⟩ : ∃ l1, l1 = l ++ [48, 120, 48] := ⟨_, rfl⟩
  have HL1 := Aside0.mk hl1
  have HN1 : Aside0 (l1.length ≤ 1000003) := ⟨by rw [hl1]; simp; omega⟩
  rw [← hl1]
  clear h hb hl1
  by_cases hk0 : k = 0
  · subst hk0
    have hz : zt 0 = [] := rfl
    rw [hz, List.append_nil]
    go_enter Tryz.func50, Tryz.ntmps50
    go_wp2_with (with_reducible refine bu_str rfl _ _ 9 rfl Tryz.underlying9 W0 v l rfl ?h1 ⟨#[48, 120, 48]⟩ rfl ?h2 ?h3)
    case h1 => exact HB.out
    case h2 => exact Nat.le_trans (Nat.add_le_add_right hl _) (by decide)
    case h3 =>
      intro v1 w1 hb1
      have HB1 : Aside0 (Bu W0 w1 v1 l1) := ⟨by rw [HL1.out]; exact hb1⟩
      clear hb1 c0 c1 c2 c3 c4 c5 c6 f0 f1 f2 f3 f4 f5 f6 lg
      go_wp2_with (with_reducible refine bu_str rfl _ _ 9 rfl Tryz.underlying9 W0 v1 l1 rfl ?k1 ⟨#[112, 43, 48, 48]⟩ rfl ?k2 ?k3)
      case k1 => exact HB1.out
      case k2 => exact Nat.le_trans (Nat.add_le_add_right HN1.out _) (by decide)
      case k3 =>
        intro v2 w2 hb2
        have HB2 := Aside0.mk hb2
        clear hb2
        go_wp2_with (fail)
        go_ret
        exact ⟨_, rfl, HB2.out⟩
  · have hz : zt k = 46 :: List.replicate k 48 := by rw [zt, if_neg hk0]
    rw [hz]
    have hk1 : (0 : Int) < (k : Int) := by omega
    have hkn : 0 < k := by omega
    clear hk0 hz
    go_enter Tryz.func50, Tryz.ntmps50
    go_wp2_with (with_reducible refine bu_str rfl _ _ 9 rfl Tryz.underlying9 W0 v l rfl ?h1 ⟨#[48, 120, 48]⟩ rfl ?h2 ?h3)
    case h1 => exact HB.out
    case h2 => exact Nat.le_trans (Nat.add_le_add_right hl _) (by decide)
    case h3 =>
      intro v1 w1 hb1
      have HB1 : Aside0 (Bu W0 w1 v1 l1) := ⟨by rw [HL1.out]; exact hb1⟩
      clear hb1 c0 c1 c2 c3 c4 c5 c6 f0 f1 f2 f3 f4 f5 f6 lg
      go_wp2_with (with_reducible refine bu_byte rfl _ _ rfl W0 v1 l1 46 rfl ?k1 rfl ?k2 ?k3)
      case k1 => exact HB1.out
      case k2 => exact Nat.le_trans HN1.out (by decide)
      case k3 =>
        intro v2 w2 hb2
        have HB2 := Aside0.mk hb2
        clear hb2
        go_wp2_with (fail)
        go_loopw [1, 7] (fun v1 v7 wr => ∃ i : Nat, i ≤ k ∧ v7 = .int .i64 (i : Int) ∧ Aside0 (Bu W0 wr v1 (l1 ++ 46 :: List.replicate i 48))) (fun _ v7 _ => k - (intOf v7).toNat)
        case atStart => exact ⟨0, by omega, rfl, HB2⟩
        case round =>
          obtain ⟨i, hi, rfl, HBI⟩ := hrel
          have HNI : Aside0 ((l1 ++ 46 :: List.replicate i 48).length ≤ 2000010) := ⟨by have := HN1.out; simp; omega⟩
          by_cases hik : i = k
          · subst hik
            obtain ⟨lI, hI⟩ : ∃ lI, lI = l1 ++ 46 :: List.replicate i 48 := ⟨_, rfl⟩
            rw [← hI] at HBI HNI
            have HI := Aside0.mk hI
            clear hI
            go_wp2_with (with_reducible refine bu_str rfl _ _ 9 rfl Tryz.underlying9 W0 _ lI rfl ?j1 ⟨#[112, 43, 48, 48]⟩ rfl ?j2 ?j3)
            case j1 => exact HBI.out
            case j2 => exact Nat.le_trans (Nat.add_le_add_right HNI.out _) (by decide)
            case j3 =>
              intro v3 w3 hb3
              have HB3 := Aside0.mk hb3
              clear hb3
              go_wp2_with (fail)
              go_ret
              exact ⟨_, rfl, by rw [← HI.out]; exact HB3.out⟩
          · have hlt : i < k := by omega
            have hlt2 : (i : Int) < (k : Int) := by omega
            have hiw : IntKind.i64.wrap ((i : Int) + 1) = ((i + 1 : Nat) : Int) := by rw [IntWalk.i64_in _ (by omega)]; omega
            go_wp2_with (with_reducible refine bu_byte rfl _ _ rfl W0 _ (l1 ++ 46 :: List.replicate i 48) 48 rfl ?j1 rfl ?j2 ?j3)
            case j1 => exact HBI.out
            case j2 => exact Nat.le_trans HNI.out (by decide)
            case j3 =>
              intro v3 w3 hb3
              have HB3 : Aside0 (Bu W0 w3 v3 (l1 ++ 46 :: List.replicate (i + 1) 48)) := ⟨by rw [List.replicate_succ', List.append_assoc] at *; exact hb3⟩
              clear hb3
              go_wp2_with (fail)
              go_roundw
              case rel => exact ⟨i + 1, by omega, by simp, HB3⟩
              case measure => simp [intOf]; omega
end Go.Proofs.YtfnknldbjckgoaaGreatDoor.Sp
end

/-! ## AppI -/
section
namespace Go.Proofs.YtfnknldbjckgoaaGreatDoor.Sp
open Go.RowKit Go.Proofs.YtfnknldbjckgoaaGreatDoorW.PrintWords Go.Proofs.YtfnknldbjckgoaaGreatDoorW.PrintLast Go.Proofs.YtfnknldbjckgoaaGreatDoorW.PrintMore Go.Proofs.YtfnknldbjckgoaaGreatDoor.Dig
set_option linter.unusedVariables false
set_option linter.unusedSimpArgs false
theorem dec_itoaT (u : Nat) : (Go.Lib.decDigits u).map (fun b => (b.toNat : Int)) = itoaT u := by
  induction u using Nat.strongRecOn with
  | _ u ih =>
    rw [Go.Lib.decDigits]
    by_cases h : u < 10
    · rw [dif_pos h]
      have e1 : (UInt8.ofNat (48 + u)).toNat = 48 + u := by rw [UInt8.toNat_ofNat']; omega
      unfold itoaT
      by_cases h0 : u = 0
      · subst h0; rfl
      · rw [if_neg h0, figs_one 10 u (by omega) (by omega) (by omega) h, fig_dec u h]
        simp
        omega
    · rw [dif_neg h, List.map_append, ih (u / 10) (by omega)]
      have e1 : (UInt8.ofNat (48 + u % 10)).toNat = 48 + u % 10 := by rw [UInt8.toNat_ofNat']; omega
      unfold itoaT
      rw [if_neg (show ¬ u / 10 = 0 by omega), if_neg (show ¬ u = 0 by omega), (figs_succ 10 u (by omega) (by omega) (by omega)).1, fig_dec _ (Nat.mod_lt u (by omega))]
      simp
      omega
theorem itoa_cells (i : Int) : Go.Lib.byteCells (Go.Lib.itoa i) = nums .u8 (itoaI i) := by
  unfold Go.Lib.itoa itoaI Go.Lib.byteCells nums
  split
  · rw [← dec_itoaT]
    simp [List.map_map]
  · rename_i h
    rw [show i.toNat = i.natAbs by omega, ← dec_itoaT]
    simp [List.map_map]
theorem itoa_len (i : Int) : (Go.Lib.itoa i).length = (itoaI i).length := by
  have := congrArg List.length (itoa_cells i)
  simpa [Go.Lib.byteCells, nums] using this
/-- The table of powers of ten as laid. -/
def Pw (w : World) : Prop := Go.Lib.TabIs Tryz.prog w "internal/strconv.uint64pow10" .u64 Go.Lib.pow10Tab
theorem appI_c (W0 w : World) (v : Value) (l : List Int) (i : Int) (hb : Bu W0 w v l) (hT : Pw W0) (h0 : -1000000000000 ≤ i ∧ i ≤ 1000000000000) (hl : l.length ≤ 1000000000) : Calls Tryz.prog 70 #[v, .int .i64 i, .int .i64 10] w (BuPost W0 (l ++ itoaI i)) := by
  refine (Sh.strconv_AppendInt_10 W0.heap.size l.length i (by omega) (by omega) v _ w hb.own hb.bel.size (by omega) ((Go.Lib.tabBelow_of_tabIs hT).on hb.bel)).mono ?_
  rintro e w' ⟨v', rfl, h1, h2, _⟩
  refine ⟨v', rfl, ⟨?_, hb.bel.trans h2⟩⟩
  rw [itoa_cells, itoa_len, ← nums_append] at h1
  rw [List.length_append]
  exact h1
end Go.Proofs.YtfnknldbjckgoaaGreatDoor.Sp
end

/-! ## FmtB -/
section
namespace Go.Proofs.YtfnknldbjckgoaaGreatDoor.Sp
open Go.RowKit Go.Proofs.YtfnknldbjckgoaaGreatDoorW.PrintWords Go.Proofs.YtfnknldbjckgoaaGreatDoorW.PrintLast Go.Proofs.YtfnknldbjckgoaaGreatDoorW.PrintMore Go.Proofs.YtfnknldbjckgoaaGreatDoor.Dig
set_option linter.unusedVariables false
set_option linter.unusedSimpArgs false
/-- The text in the format b. -/
def fmtBT (v b p : Nat) (x : Int) : List Int := figs 10 (v * 2 ^ (p - b)) ++ [112] ++ (if 0 ≤ (b : Int) + x - p then [43] else []) ++ itoaI ((b : Int) + x - p)
theorem Own.flt {w0 w : World} {g p : Nat} {m : Int} {neg : Bool} {v x : Int} {b : Nat} (h : Own w0 w g p m neg v x b) : ∃ mb L R c, Flt w g mb p m 0 1 neg L.length c ((b : Int) + x) (L ++ R) ∧ Canon p L ∧ ev BW L = v * 2 ^ (64 * L.length - b) ∧ 64 * L.length < b + 64 ∧ b ≤ 64 * L.length := by
  obtain ⟨mb, L, R, c, h1, h2, h3, h4⟩ := h
  exact ⟨mb, L, R, c, h4⟩
theorem fit_of {M p : Nat} (h : M < 2 ^ p) (hp : p ≤ 512) : Fit M := Nat.lt_of_lt_of_le h (Nat.le_trans (Nat.pow_le_pow_right (by omega) hp) (by decide +kernel))
theorem up_cells {w' : World} {l : List Int} {g o : Nat} {Z : List Int} (h : Br w' g Z) (hd : Z.drop o = l) (ho : o ≤ Z.length) : ∀ j, j < l.length → w'.cell? ((⟨g, o, none⟩ : Addr).add j) = some (.int .u8 (l.getD j 0)) := by
  intro j hj
  have hl : l.length = Z.length - o := by rw [← hd, List.length_drop]
  rw [add_spot, h.cell (o + j) (by omega), ← hd]
  simp only [List.getD_eq_getElem?_getD, List.getElem?_drop]
theorem fit_figs {v : Nat} (h : Fit v) : (figs 10 v).length ≤ 155 := figs_len 10 155 v (by omega) (Nat.lt_trans h (by decide +kernel))
/-- The plain facts of fmtB. -/
structure BPre (L : List Int) (vN b p B M : Nat) : Prop where
  fit : Fit M
  pos : 0 < M
  lt : M < 2 ^ p
  eq : M = vN * 2 ^ (p - b)
  nv : ev BW L = (vN : Int) * (2 : Int) ^ (B - b)
theorem bpre {L : List Int} {vN b p : Nat} (hev : ev BW L = (vN : Int) * 2 ^ (64 * L.length - b)) (hv0 : 0 < vN) (hbits : Bits (vN : Int) b) (hbp : b ≤ p) (hp : p ≤ 512) : ∃ B M, B = 64 * L.length ∧ BPre L vN b p B M := by
  have hvb : vN < 2 ^ b := Int.ofNat_lt.1 (by rw [Int.natCast_pow]; exact hbits.2.1)
  have hMp : vN * 2 ^ (p - b) < 2 ^ p := by
    have h1 := Nat.mul_lt_mul_of_pos_right hvb (Nat.two_pow_pos (p - b))
    rw [← Nat.pow_add, Nat.add_sub_cancel' hbp] at h1
    exact h1
  exact ⟨_, _, rfl, fit_of hMp hp, Nat.mul_pos hv0 (Nat.two_pow_pos _), hMp, rfl, hev⟩
theorem BPre.up {L : List Int} {vN b p B M t : Nat} (h : BPre L vN b p B M) (ht : p = B + t) (hb : b ≤ B) : ev BW L * 2 ^ t = (M : Int) := by
  rw [h.nv, h.eq, Int.natCast_mul, Int.natCast_pow, Int.mul_assoc, ← Int.pow_add, show B - b + t = p - b by omega]
  rfl
theorem BPre.same {L : List Int} {vN b p B M : Nat} (h : BPre L vN b p B M) (ht : B = p) : ev BW L = (M : Int) := by
  rw [h.nv, h.eq, ht, Int.natCast_mul, Int.natCast_pow]
  rfl
theorem BPre.down {L : List Int} {vN b p B M t : Nat} (h : BPre L vN b p B M) (ht : B = p + t) (hb : b ≤ p) : ev BW L / 2 ^ t = (M : Int) := by
  rw [h.nv, h.eq]
  have := mul_div_pow vN (B - b) t (by omega)
  rw [show B - b - t = p - b by omega] at this
  rw [← this]
  simp
set_option maxHeartbeats 6400000 in
set_option maxRecDepth 100000 in
theorem fmtB_c (g p vN b : Nat) (m x : Int) (neg : Bool) (w0 W0 w : World) (v : Value) (l : List Int) (h : Own w0 W0 g p m neg (vN : Int) x b) (hv0 : 0 < vN) (hbits : Bits (vN : Int) b) (hbp : b ≤ p) (hp : p ≤ 512) (hx : -1000000 ≤ x ∧ x ≤ 1000000) (hb : Bu W0 w v l) (hl : l.length ≤ 1000000) (hT : Pw W0) (hL : Leaf W0) :
    Calls Tryz.prog 48 #[.pointer (some ⟨g, 0, none⟩), v] w (BuPost W0 (l ++ fmtBT vN b p x)) := by
  obtain ⟨mb, L, R, c, hF, hC, hev, h64, hb64⟩ := h.flt
  obtain ⟨B, M, hB, hP⟩ := bpre hev hv0 hbits hbp hp
  have HP := Aside0.mk hP
  have hl0 : 0 < L.length := hC.pos
  have hl9 : L.length ≤ 9 := by omega
  have hlc := hF.lec
  have hBp : b ≤ B := by omega
  have HFA : Aside0 (∀ W, Below W0.heap.size W0 W → Flt W g mb p m 0 1 neg L.length c ((b : Int) + x) (L ++ R)) := ⟨fun W hW => hF.below hW⟩
  have HLA : Aside0 (∀ W, Below W0.heap.size W0 W → Leaf W) := ⟨fun W hW => hL.below hW⟩
  have HPW : Aside0 (Pw W0) := ⟨hT⟩
  have HOK := Aside0.mk hC.ok
  have HB := Aside0.mk hb
  have hBi : (L.length : Int) * 64 = (B : Int) := by omega
  have hBi' : 64 * (L.length : Int) = (B : Int) := by omega
  have HBL : Aside0 (B = 64 * L.length) := ⟨hB⟩
  have hlw : IntKind.u32.wrap (L.length : Int) = (L.length : Int) := by rw [IntKind.wrap_u32']; omega
  have hFw := HFA.out w hb.bel
  obtain ⟨c0, c1, c2, c3, c4, c5, c6, f0, f1, f2, f3, f4, f5, f6⟩ := blk7 hFw.flt
  have lg := hp_lt hFw.flt
  have hmbl := hp_lt hFw.mant
  have hrow : Kd.C (Kd.int .u64) w (some ⟨mb, 0, none⟩) L.length L := by
    have := hFw.C
    rwa [List.take_left' rfl] at this
  have HROW := Aside0.mk hrow
  have HTX : Aside0 (fmtBT vN b p x = figs 10 M ++ [112] ++ (if 0 ≤ (b : Int) + x - p then [43] else []) ++ itoaI ((b : Int) + x - p)) := ⟨by rw [hP.eq]; rfl⟩
  obtain ⟨TX, hTX⟩ : ∃ TX, TX = fmtBT vN b p x := ⟨_, rfl⟩
  rw [← hTX] at HTX ⊢
  obtain ⟨E, hE⟩ : ∃ E : Int, E = (b : Int) + x - p := ⟨_, rfl⟩
  obtain ⟨Xe, hXe⟩ : ∃ Xe : Int, Xe = (b : Int) + x := ⟨_, rfl⟩
  rw [← hE] at HTX
  rw [← hXe] at HFA c6
  have hXE : Xe - (p : Int) = E := by omega
  have hw1 : IntKind.i64.wrap Xe = Xe := IntWalk.i64_in _ (by omega)
  have hw2 : IntKind.i64.wrap (p : Int) = (p : Int) := IntWalk.i64_in _ (by omega)
  have hw3 : IntKind.i64.wrap E = E := IntWalk.i64_in _ (by omega)
  have hE9 : -2000000 ≤ E ∧ E ≤ 2000000 := by omega
  obtain ⟨l1, hl1⟩ : ∃ l1, l1 = l ++ figs 10 M := ⟨_, rfl⟩
  obtain ⟨l2, hl2⟩ : ∃ l2, l2 = l1 ++ [112] := ⟨_, rfl⟩
  have HL1 := Aside0.mk hl1
  have HL2 := Aside0.mk hl2
  have HN0 := Aside0.mk hl
  have HNF := Aside0.mk (fit_figs hP.fit)
  have HN1 : Aside0 (l1.length ≤ 1000155) := ⟨by have := fit_figs hP.fit; rw [hl1, List.length_append]; omega⟩
  have HN2 : Aside0 (l2.length ≤ 1000156) := ⟨by have := HN1.out; rw [hl2, List.length_append]; simp only [List.length_cons, List.length_nil]; omega⟩
  clear hl1 hl2 hXe hE hl
  obtain ⟨A0, n0, k0, rfl⟩ : ∃ A n k, v = .slice A n k := by
    obtain ⟨A, k, h1, _⟩ := hb.slice
    exact ⟨A, _, k, h1⟩
  have HTOP : Aside0 (Canon p L) := ⟨hC⟩
  have hB9 : B < b + 64 := by omega
  have hB0 : 64 ≤ B ∧ B ≤ 576 := by omega
  clear h64 hb64
  clear h hF hC hev hP hL hT hb hFw hrow hTX hbits hv0 hB
  go_enter Tryz.func48, Tryz.ntmps48
  go_upto_block 0 with (fail)
  go_cut [5] (fun v5 wx => Aside0 (Wd wx v5 (M : Int)) ∧ Aside0 (Bu W0 wx (.slice A0 n0 k0) l))
  case first =>
    rcases Nat.lt_trichotomy B p with hlt | heq | hgt
    · obtain ⟨t, ht⟩ : ∃ t, t = p - B := ⟨_, rfl⟩
      have hti : (p : Int) - (B : Int) = (t : Int) := by omega
      have htw : IntKind.u64.wrap (t : Int) = (t : Int) := by rw [IntKind.wrap_u64]; omega
      have hrd : Rd w (fun _ => False) (.slice none 0 0) (.slice (some ⟨mb, 0, none⟩) L.length c) L := ⟨mb, 0, c, rfl, hlc, fun j hj => by have := C_at HROW.out j hj; rwa [add_spot] at this, HOK.out, hmbl, .inl (fun h => h)⟩
      have HSH := Aside0.mk (lsh_c (.slice none 0 0) (.slice (some ⟨mb, 0, none⟩) L.length c) (fun _ => False) L t w (.inl rfl) hrd hl0 (by omega) (by omega) (by omega))
      have HVM : Aside0 (ev BW L * 2 ^ t = (M : Int)) := ⟨HP.out.up (by omega) hBp⟩
      clear hrd ht
      go_wp2_with (go_at_call 67; refine HSH.out.mono ?_; rintro e w1 ⟨q, rfl, hn, hk⟩; have HN := Aside0.mk hn; have HK := Aside0.mk hk; clear hn hk)
      go_meet
      case rel => exact ⟨⟨by rw [← HVM.out]; exact HN.out.wd⟩, ⟨HB.out.below (HK.out.below (fun i h => h.elim) (Nat.le_refl _))⟩⟩
    · subst heq
      have HVM : Aside0 (ev BW L = (M : Int)) := ⟨HP.out.same rfl⟩
      go_wp2_with (fail)
      go_meet
      case rel => exact ⟨⟨⟨_, _, L, rfl, hlc, HROW.out, HTOP.out.cn, HVM.out⟩⟩, HB⟩
    · obtain ⟨t, ht⟩ : ∃ t, t = B - p := ⟨_, rfl⟩
      have hti : (B : Int) - (p : Int) = (t : Int) := by omega
      have htw : IntKind.u64.wrap (t : Int) = (t : Int) := by rw [IntKind.wrap_u64]; omega
      have HSH := Aside0.mk (rsh_nil_c mb c t L w HROW.out hlc HOK.out (by omega) (by omega) (by omega) hmbl)
      have HVM : Aside0 (ev BW L / 2 ^ t = (M : Int)) := ⟨HP.out.down (by omega) hbp⟩
      clear ht
      go_wp2_with (go_at_call 68; refine HSH.out.mono ?_; rintro e w1 ⟨A1, m1, c1', rfl, hn, hk⟩; have HN := Aside0.mk hn; have HK := Aside0.mk hk; clear hn hk)
      go_meet
      case rel => exact ⟨⟨by rw [← HVM.out]; exact HN.out⟩, ⟨HB.out.below HK.out⟩⟩
  case rest =>
    obtain ⟨HW, HB⟩ := hcut
    have HU := Aside0.mk (utoa_c _ M wc HW.out HP.out.pos HP.out.fit (HLA.out wc HB.out.bel))
    go_wp2_with (first | (go_at_call 69; refine HU.out.mono ?_; rintro e w1 ⟨g1, o1, Z1, c1', rfl, hbr, hdr, hoz, hlc1, hg1, hbl⟩; have HBR := Aside0.mk hbr; have HDR := Aside0.mk hdr; have HOZ := Aside0.mk hoz; have HBL := Aside0.mk hbl; clear hbr hdr hoz hbl hlc1 hg1) | (with_reducible refine bu_row rfl _ _ rfl W0 (.slice A0 n0 k0) l (figs 10 M) ⟨g1, o1, none⟩ c1' rfl ?k1 rfl ?k2 ?k3 ?k4) | fail)
    case k1 => exact HB.out.below HBL.out
    case k2 => exact up_cells HBR.out HDR.out HOZ.out
    case k3 => exact Nat.le_trans (Nat.add_le_add HN0.out HNF.out) (by decide)
    case k4 =>
      intro v2 w2 hb2
      have HB2 : Aside0 (Bu W0 w2 v2 l1) := ⟨by rw [HL1.out]; exact hb2⟩
      clear hb2
      go_wp2_with (with_reducible refine bu_byte rfl _ _ rfl W0 v2 l1 112 rfl ?j1 rfl ?j2 ?j3)
      case j1 => exact HB2.out
      case j2 => exact Nat.le_trans HN1.out (by decide)
      case j3 =>
        intro v3 w3 hb3
        have HB3 : Aside0 (Bu W0 w3 v3 l2) := ⟨by rw [HL2.out]; exact hb3⟩
        clear hb3 c0 c1 c2 c3 c4 c5 c6 f0 f1 f2 f3 f4 f5 f6 lg
        obtain ⟨c0, c1, c2, c3, c4, c5, c6, f0, f1, f2, f3, f4, f5, f6⟩ := blk7 (HFA.out w3 HB3.out.bel).flt
        have lg := hp_lt (HFA.out w3 HB3.out.bel).flt
        by_cases hE0 : 0 ≤ E
        · have HTE : Aside0 (TX = figs 10 M ++ [112] ++ [43] ++ itoaI E) := ⟨by rw [HTX.out, if_pos hE0]⟩
          have hge : decide (0 ≤ E) = true := decide_eq_true hE0
          obtain ⟨l3, hl3⟩ : ∃ l3, l3 = l2 ++ [43] := ⟨_, rfl⟩
          have HL3 := Aside0.mk hl3
          have HN3 : Aside0 (l3.length ≤ 1000157) := ⟨by have := HN2.out; rw [hl3, List.length_append]; simp only [List.length_cons, List.length_nil]; omega⟩
          clear hl3
          go_wp2_with (first | (go_quiet (fail)) | (with_reducible refine bu_byte rfl _ _ rfl W0 v3 l2 43 rfl ?m1 rfl ?m2 ?m3) | fail)
          case m1 => exact HB3.out.drewN _
          case m2 => exact Nat.le_trans HN2.out (by decide)
          case m3 =>
            intro v4 w4 hb4
            have HB4 : Aside0 (Bu W0 w4 v4 l3) := ⟨by rw [HL3.out]; exact hb4⟩
            clear hb4
            have HAI := Aside0.mk (appI_c W0 w4 v4 l3 E HB4.out HPW.out (by omega) (Nat.le_trans HN3.out (by decide)))
            go_wp2_with (go_at_call 70; refine HAI.out.mono ?_; rintro e w5 ⟨v5, rfl, hb5⟩; have HB5 := Aside0.mk hb5; clear hb5)
            go_ret
            exact ⟨_, rfl, by rw [HTE.out, ← List.append_assoc, ← List.append_assoc, ← List.append_assoc, ← HL1.out, ← HL2.out, ← HL3.out]; exact HB5.out⟩
        · have HTE : Aside0 (TX = figs 10 M ++ [112] ++ itoaI E) := ⟨by rw [HTX.out, if_neg hE0, List.append_nil]⟩
          have hge : decide (0 ≤ E) = false := decide_eq_false hE0
          have HAI : Aside0 (∀ n, Calls Tryz.prog 70 #[v3, .int .i64 E, .int .i64 10] (w3.drewN n) (BuPost W0 (l2 ++ itoaI E))) := ⟨fun n => appI_c W0 (w3.drewN n) v3 l2 E (HB3.out.drewN n) HPW.out (by omega) (Nat.le_trans HN2.out (by decide))⟩
          go_wp2_with (first | (go_quiet (fail)) | (go_at_call 70; refine (HAI.out _).mono ?_; rintro e w5 ⟨v5, rfl, hb5⟩; have HB5 := Aside0.mk hb5; clear hb5) | fail)
          go_ret
          exact ⟨_, rfl, by rw [HTE.out, ← List.append_assoc, ← List.append_assoc, ← HL1.out, ← HL2.out]; exact HB5.out⟩
end Go.Proofs.YtfnknldbjckgoaaGreatDoor.Sp
end

/-! ## TextA -/
section
namespace Go.Proofs.YtfnknldbjckgoaaGreatDoor.Sp
open Go.RowKit Go.Proofs.YtfnknldbjckgoaaGreatDoorW.PrintWords Go.Proofs.YtfnknldbjckgoaaGreatDoorW.PrintLast Go.Proofs.YtfnknldbjckgoaaGreatDoorW.PrintMore Go.Proofs.YtfnknldbjckgoaaGreatDoor.Dig
set_option linter.unusedVariables false
set_option linter.unusedSimpArgs false
set_option maxHeartbeats 1600000 in
set_option maxRecDepth 100000 in
theorem text_any (g : Nat) (ch k : Int) (T : List Int) (w : World) (hk : -100000 ≤ k ∧ k ≤ 100000) (HA0 : ∀ W (v : Value), Bu w W v [] → Calls Tryz.prog 38 #[.pointer (some ⟨g, 0, none⟩), v, .int .u8 ch, .int .i64 k] W (BuPost w T)) :
    Calls Tryz.prog 29 #[.pointer (some ⟨g, 0, none⟩), .int .u8 ch, .int .i64 k] w fun e w' => e = .returned (.string (strOfNums T)) ∧ Below w.heap.size w w' := by
  obtain ⟨cap, hcap⟩ : ∃ cap : Int, cap = if 0 < k then 10 + k else 10 := ⟨_, rfl⟩
  have hc0 : 0 ≤ cap ∧ cap ≤ 200000 := by split at hcap <;> omega
  have hmk := make_ints 43 5 .u8 1 Tryz.underlying43 infoU8 (by omega) 0 cap (by omega) hc0.1 (by omega)
  have HA : Aside0 (∀ W, Bu w W (.slice (some ⟨w.heap.size, 0, none⟩) 0 cap.toNat) [] → Calls Tryz.prog 38 #[.pointer (some ⟨g, 0, none⟩), .slice (some ⟨w.heap.size, 0, none⟩) 0 cap.toNat, .int .u8 ch, .int .i64 k] W fun e w' => ∃ v', e = .returned v' ∧ Bu w w' v' T) := ⟨fun W h2 => HA0 W _ h2⟩
  have HM : Aside0 (Bu w (w.alloc (.cells (Array.replicate cap.toNat (.int .u8 0)) 5)) (.slice (some ⟨w.heap.size, 0, none⟩) 0 cap.toNat) []) := ⟨bu_made w w (Below.refl _ _) _ (by omega)⟩
  clear HA0
  have h0n : (0 : Int).toNat = 0 := rfl
  rw [h0n] at hmk
  by_cases hk0 : 0 < k
  · have hw : IntKind.i64.wrap (10 + k) = cap := by rw [IntWalk.i64_in _ (by omega), hcap, if_pos hk0]
    clear hcap hc0
    go_enter Tryz.func29, Tryz.ntmps29
    go_wp2_with (go_at_call 38; refine (HA.out _ HM.out).mono ?_; rintro e w1 ⟨v1, rfl, hb1⟩; have hcv := bu_string hb1 9 Tryz.underlying9; have HB1 := Aside0.mk hb1.bel; clear hb1)
    go_ret
    exact ⟨rfl, HB1.out⟩
  · have hw : cap = 10 := by rw [hcap, if_neg hk0]
    subst hw
    clear hcap hc0
    go_enter Tryz.func29, Tryz.ntmps29
    go_wp2_with (go_at_call 38; refine (HA.out _ HM.out).mono ?_; rintro e w1 ⟨v1, rfl, hb1⟩; have hcv := bu_string hb1 9 Tryz.underlying9; have HB1 := Aside0.mk hb1.bel; clear hb1)
    go_ret
    exact ⟨rfl, HB1.out⟩
/-- The sign's text. -/
def sgn1 (neg : Bool) : List Int := if neg then [45] else []
set_option maxHeartbeats 3200000 in
set_option maxRecDepth 100000 in
theorem appB_c (g p vN b : Nat) (m x k : Int) (neg : Bool) (w0 W0 w : World) (v : Value) (l : List Int) (h : Own w0 W0 g p m neg (vN : Int) x b) (hv0 : 0 < vN) (hbits : Bits (vN : Int) b) (hbp : b ≤ p) (hp : p ≤ 512) (hx : -1000000 ≤ x ∧ x ≤ 1000000) (hb : Bu W0 w v l) (hl : l.length ≤ 900000) (hT : Pw W0) (hL : Leaf W0) :
    Calls Tryz.prog 38 #[.pointer (some ⟨g, 0, none⟩), v, .int .u8 98, .int .i64 k] w (BuPost W0 ((l ++ sgn1 neg) ++ fmtBT vN b p x)) := by
  have HC : Aside0 (∀ W v' l', Bu W0 W v' l' → l'.length ≤ 1000000 → Calls Tryz.prog 48 #[.pointer (some ⟨g, 0, none⟩), v'] W (BuPost W0 (l' ++ fmtBT vN b p x))) := ⟨fun W v' l' h1 h2 => fmtB_c g p vN b m x neg w0 W0 W v' l' h hv0 hbits hbp hp hx h1 h2 hT hL⟩
  obtain ⟨mb, L, R, c, hF, hC, hev, h64, hb64⟩ := h.flt
  have HFA : Aside0 (∀ W, Below W0.heap.size W0 W → Flt W g mb p m 0 1 neg L.length c ((b : Int) + x) (L ++ R)) := ⟨fun W hW => hF.below hW⟩
  have HB := Aside0.mk hb
  have HN := Aside0.mk hl
  obtain ⟨X, hX⟩ : ∃ X, X = fmtBT vN b p x := ⟨_, rfl⟩
  obtain ⟨E, hE⟩ : ∃ E : Int, E = (b : Int) + x := ⟨_, rfl⟩
  rw [← hX] at HC ⊢
  rw [← hE] at HFA
  have hFw := HFA.out w hb.bel
  obtain ⟨c0, c1, c2, c3, c4, c5, c6, f0, f1, f2, f3, f4, f5, f6⟩ := blk7 hFw.flt
  have lg := hp_lt hFw.flt
  clear h hF hC hev h64 hb64 hFw hb hX hE hv0 hbits hbp hp hx hT hL hl
  cases neg with
  | true =>
    obtain ⟨l1, hl1⟩ : ∃ l1, l1 = l ++ sgn1 true := ⟨_, rfl⟩
    have HL1 := Aside0.mk hl1
    have HN1 : Aside0 (l1.length ≤ 900001) := ⟨by have := HN.out; rw [hl1]; simp [sgn1]; omega⟩
    clear hl1
    go_enter Tryz.func38, Tryz.ntmps38
    go_wp2_with (with_reducible refine bu_byte rfl _ _ rfl W0 v l 45 rfl ?h1 rfl ?h2 ?h3)
    case h1 => exact HB.out
    case h2 => exact Nat.le_trans HN.out (by decide)
    case h3 =>
      intro v1 w1 hb1
      have HB1 : Aside0 (Bu W0 w1 v1 l1) := ⟨by rw [HL1.out]; exact hb1⟩
      have HF1 := Aside0.mk (HC.out w1 v1 l1 HB1.out (Nat.le_trans HN1.out (by decide)))
      clear hb1 c0 c1 c2 c3 c4 c5 c6 f0 f1 f2 f3 f4 f5 f6 lg
      obtain ⟨c0, c1, c2, c3, c4, c5, c6, f0, f1, f2, f3, f4, f5, f6⟩ := blk7 (HFA.out w1 HB1.out.bel).flt
      have lg := hp_lt (HFA.out w1 HB1.out.bel).flt
      go_wp2_with (go_at_call 48; refine HF1.out.mono ?_; rintro e w2 ⟨v2, rfl, hb2⟩; have HB2 := Aside0.mk hb2; clear hb2)
      go_ret
      exact ⟨_, rfl, by rw [← HL1.out]; exact HB2.out⟩
  | false =>
    have HF1 := Aside0.mk (HC.out w v l HB.out (Nat.le_trans HN.out (by decide)))
    go_enter Tryz.func38, Tryz.ntmps38
    go_wp2_with (go_at_call 48; refine HF1.out.mono ?_; rintro e w2 ⟨v2, rfl, hb2⟩; have HB2 := Aside0.mk hb2; clear hb2)
    go_ret
    exact ⟨_, rfl, by rw [show l ++ sgn1 false = l from List.append_nil _]; exact HB2.out⟩
end Go.Proofs.YtfnknldbjckgoaaGreatDoor.Sp
end
