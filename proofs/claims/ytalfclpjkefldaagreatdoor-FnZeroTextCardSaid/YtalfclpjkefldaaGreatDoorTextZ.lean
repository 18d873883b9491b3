/-
  CONTRACTS of strconv.AppendInt at 0, and of fmtB, fmtP at nought.
-/
import Derived.Test.YtalfclpjkefldaaGreatDoorGexa
import Derived.Test.YtalfclpjkefldaaGreatDoorBuf
namespace Go.Proofs.YtalfclpjkefldaaGreatDoor.Sp
open Go.RowKit Go.Proofs.YtalfclpjkefldaaGreatDoorW.PrintWords Go.Proofs.YtalfclpjkefldaaGreatDoorW.PrintLast Go.Proofs.YtalfclpjkefldaaGreatDoorW.PrintMore Go.Proofs.YtalfclpjkefldaaGreatDoor.Dig
set_option linter.unusedVariables false
set_option linter.unusedSimpArgs false
/-- The call hands back v' with the bytes l in it. -/
def BuPost (W0 : World) (l : List Int) (e : Ending) (w' : World) : Prop := ∃ v', e = .returned v' ∧ Bu W0 w' v' l
theorem small0 (w : World) : Calls Tryz.prog 156 #[.int .i64 0] w fun e w' => e = .returned (.string ⟨#[48]⟩) ∧ w' = w := by
  go_enter Tryz.func156, Tryz.ntmps156
  go_wp2_with (fail)
  go_ret
  exact ⟨rfl, rfl⟩
set_option maxHeartbeats 1600000 in
set_option maxRecDepth 100000 in
theorem appU0 (W0 w : World) (v : Value) (l : List Int) (hb : Bu W0 w v l) (hl : l.length ≤ 10000000) : Calls Tryz.prog 134 #[v, .int .u64 0, .int .i64 10] w (BuPost W0 (l ++ [48])) := by
  have HB := Aside0.mk hb
  clear hb
  go_enter Tryz.func134, Tryz.ntmps134
  go_wp2_with (first | (go_at_call 156; refine (small0 _).mono ?_; rintro e w' ⟨rfl, rfl⟩) | (with_reducible refine bu_str rfl _ _ 9 rfl Tryz.underlying9 W0 v l rfl ?k1 ⟨#[48]⟩ rfl ?k2 ?k3) | fail)
  case k1 => exact HB.out
  case k2 => exact Nat.le_trans (Nat.add_le_add_right hl _) (by decide)
  case k3 =>
    intro v1 w1 hb1
    have HB1 := Aside0.mk hb1
    clear hb1
    go_wp2_with (fail)
    go_ret
    exact ⟨_, rfl, HB1.out⟩
set_option maxHeartbeats 1600000 in
set_option maxRecDepth 100000 in
theorem appI0' (W0 w : World) (v : Value) (l : List Int) (hb : Bu W0 w v l) (hl : l.length ≤ 10000000) : Calls Tryz.prog 109 #[v, .int .i64 0, .int .i64 10] w (BuPost W0 (l ++ [48])) := by
  have HA := Aside0.mk (appU0 W0 w v l hb hl)
  clear hb
  go_enter Tryz.func109, Tryz.ntmps109
  go_wp2_with (go_at_call 134; refine HA.out.mono ?_; rintro e w1 ⟨v1, rfl, hb1⟩; have HB1 := Aside0.mk hb1; clear hb1)
  go_ret
  exact ⟨_, rfl, HB1.out⟩
set_option maxHeartbeats 1600000 in
set_option maxRecDepth 100000 in
theorem appI0 (W0 w : World) (v : Value) (l : List Int) (hb : Bu W0 w v l) (hl : l.length ≤ 10000000) : Calls Tryz.prog 80 #[v, .int .i64 0, .int .i64 10] w (BuPost W0 (l ++ [48])) := by
  have HA := Aside0.mk (appI0' W0 w v l hb hl)
  clear hb
  go_enter Tryz.func80, Tryz.ntmps80
  go_wp2_with (go_at_call 109; refine HA.out.mono ?_; rintro e w1 ⟨v1, rfl, hb1⟩; have HB1 := Aside0.mk hb1; clear hb1)
  go_ret
  exact ⟨_, rfl, HB1.out⟩
set_option maxHeartbeats 1600000 in
set_option maxRecDepth 100000 in
theorem fmtB0 (g p : Nat) (m : Int) (neg : Bool) (W0 w : World) (v : Value) (l : List Int) (h : Spc w g p m 0 neg) (hb : Bu W0 w v l) (hl : l.length ≤ 1000000) :
    Calls Tryz.prog 59 #[.pointer (some ⟨g, 0, none⟩), v] w (BuPost W0 (l ++ [48])) := by
  have HB := Aside0.mk hb
  obtain ⟨c0, c1, c2, c3, c4, c5, c6, f0, f1, f2, f3, f4, f5, f6⟩ := blk7 h.blk
  have lg := hp_lt h.blk
  clear h hb
  go_enter Tryz.func59, Tryz.ntmps59
  go_wp2_with (with_reducible refine bu_byte rfl _ _ rfl W0 v l 48 rfl ?h1 rfl ?h2 ?h3)
  case h1 => exact HB.out
  case h2 => exact Nat.le_trans hl (by omega)
  case h3 =>
    intro v1 w1 hb1
    have HB1 := Aside0.mk hb1
    clear hb1
    go_wp2_with (fail)
    go_ret
    exact ⟨_, rfl, HB1.out⟩
set_option maxHeartbeats 1600000 in
set_option maxRecDepth 100000 in
theorem fmtP0 (g p : Nat) (m : Int) (neg : Bool) (W0 w : World) (v : Value) (l : List Int) (h : Spc w g p m 0 neg) (hb : Bu W0 w v l) (hl : l.length ≤ 1000000) :
    Calls Tryz.prog 60 #[.pointer (some ⟨g, 0, none⟩), v] w (BuPost W0 (l ++ [48])) := by
  have HB := Aside0.mk hb
  obtain ⟨c0, c1, c2, c3, c4, c5, c6, f0, f1, f2, f3, f4, f5, f6⟩ := blk7 h.blk
  have lg := hp_lt h.blk
  clear h hb
  go_enter Tryz.func60, Tryz.ntmps60
  go_wp2_with (with_reducible refine bu_byte rfl _ _ rfl W0 v l 48 rfl ?h1 rfl ?h2 ?h3)
  case h1 => exact HB.out
  case h2 => exact Nat.le_trans hl (by omega)
  case h3 =>
    intro v1 w1 hb1
    have HB1 := Aside0.mk hb1
    clear hb1
    go_wp2_with (fail)
    go_ret
    exact ⟨_, rfl, HB1.out⟩
/-- So many noughts behind a point. -/
def zt (k : Nat) : List Int := if k = 0 then [] else 46 :: List.replicate k 48
set_option maxHeartbeats 3200000 in
set_option maxRecDepth 100000 in
theorem fmtX0 (g p k : Nat) (m : Int) (neg : Bool) (W0 w : World) (v : Value) (l : List Int) (h : Spc w g p m 0 neg) (hb : Bu W0 w v l) (hl : l.length ≤ 1000000) (hk : k ≤ 1000000) :
    Calls Tryz.prog 61 #[.pointer (some ⟨g, 0, none⟩), v, .int .i64 (k : Int)] w (BuPost W0 (l ++ [48, 120, 48] ++ zt k ++ [112, 43, 48, 48])) := by
  have HB := Aside0.mk hb
  obtain ⟨c0, c1, c2, c3, c4, c5, c6, f0, f1, f2, f3, f4, f5, f6⟩ := blk7 h.blk
  have lg := hp_lt h.blk
  obtain ⟨l1, hl1⟩ : ∃ l1, l1 = l ++ [48, 120, 48] := ⟨_, rfl⟩
  have HL1 := Aside0.mk hl1
  have HN1 : Aside0 (l1.length ≤ 1000003) := ⟨by rw [hl1]; simp; omega⟩
  rw [← hl1]
  clear h hb hl1
  by_cases hk0 : k = 0
  · subst hk0
    have hz : zt 0 = [] := rfl
    rw [hz, List.append_nil]
    go_enter Tryz.func61, Tryz.ntmps61
    go_wp2_with (with_reducible refine bu_str rfl _ _ 9 rfl Tryz.underlying9 W0 v l rfl ?h1 ⟨#[48, 120, 48]⟩ rfl ?h2 ?h3)
    case h1 => exact HB.out
    case h2 => exact Nat.le_trans (Nat.add_le_add_right hl _) (by decide)
    case h3 =>
      intro v1 w1 hb1
      have HB1 : Aside0 (Bu W0 w1 v1 l1) := ⟨by rw [HL1.out]; exact hb1⟩
      clear hb1 c0 c1 c2 c3 c4 c5 c6 f0 f1 f2 f3 f4 f5 f6 lg
      go_wp2_with (with_reducible refine bu_str rfl _ _ 9 rfl Tryz.underlying9 W0 v1 l1 rfl ?k1 ⟨#[112, 43, 48, 48]⟩ rfl ?k2 ?k3)
      case k1 => exact HB1.out
      case k2 => exact Nat.le_trans (Nat.add_le_add_right HN1.out _) (by decide)
      case k3 =>
        intro v2 w2 hb2
        have HB2 := Aside0.mk hb2
        clear hb2
        go_wp2_with (fail)
        go_ret
        exact ⟨_, rfl, HB2.out⟩
  · have hz : zt k = 46 :: List.replicate k 48 := by rw [zt, if_neg hk0]
    rw [hz]
    have hk1 : (0 : Int) < (k : Int) := by omega
    have hkn : 0 < k := by omega
    clear hk0 hz
    go_enter Tryz.func61, Tryz.ntmps61
    go_wp2_with (with_reducible refine bu_str rfl _ _ 9 rfl Tryz.underlying9 W0 v l rfl ?h1 ⟨#[48, 120, 48]⟩ rfl ?h2 ?h3)
    case h1 => exact HB.out
    case h2 => exact Nat.le_trans (Nat.add_le_add_right hl _) (by decide)
    case h3 =>
      intro v1 w1 hb1
      have HB1 : Aside0 (Bu W0 w1 v1 l1) := ⟨by rw [HL1.out]; exact hb1⟩
      clear hb1 c0 c1 c2 c3 c4 c5 c6 f0 f1 f2 f3 f4 f5 f6 lg
      go_wp2_with (with_reducible refine bu_byte rfl _ _ rfl W0 v1 l1 46 rfl ?k1 rfl ?k2 ?k3)
      case k1 => exact HB1.out
      case k2 => exact Nat.le_trans HN1.out (by decide)
      case k3 =>
        intro v2 w2 hb2
        have HB2 := Aside0.mk hb2
        clear hb2
        go_wp2_with (fail)
        go_loopw [1, 7] (fun v1 v7 wr => ∃ i : Nat, i ≤ k ∧ v7 = .int .i64 (i : Int) ∧ Aside0 (Bu W0 wr v1 (l1 ++ 46 :: List.replicate i 48))) (fun _ v7 _ => k - (intOf v7).toNat)
        case atStart => exact ⟨0, by omega, rfl, HB2⟩
        case round =>
          obtain ⟨i, hi, rfl, HBI⟩ := hrel
          have HNI : Aside0 ((l1 ++ 46 :: List.replicate i 48).length ≤ 2000010) := ⟨by have := HN1.out; simp; omega⟩
          by_cases hik : i = k
          · subst hik
            obtain ⟨lI, hI⟩ : ∃ lI, lI = l1 ++ 46 :: List.replicate i 48 := ⟨_, rfl⟩
            rw [← hI] at HBI HNI
            have HI := Aside0.mk hI
            clear hI
            go_wp2_with (with_reducible refine bu_str rfl _ _ 9 rfl Tryz.underlying9 W0 _ lI rfl ?j1 ⟨#[112, 43, 48, 48]⟩ rfl ?j2 ?j3)
            case j1 => exact HBI.out
            case j2 => exact Nat.le_trans (Nat.add_le_add_right HNI.out _) (by decide)
            case j3 =>
              intro v3 w3 hb3
              have HB3 := Aside0.mk hb3
              clear hb3
              go_wp2_with (fail)
              go_ret
              exact ⟨_, rfl, by rw [← HI.out]; exact HB3.out⟩
          · have hlt : i < k := by omega
            have hlt2 : (i : Int) < (k : Int) := by omega
            have hiw : IntKind.i64.wrap ((i : Int) + 1) = ((i + 1 : Nat) : Int) := by rw [IntWalk.i64_in _ (by omega)]; omega
            go_wp2_with (with_reducible refine bu_byte rfl _ _ rfl W0 _ (l1 ++ 46 :: List.replicate i 48) 48 rfl ?j1 rfl ?j2 ?j3)
            case j1 => exact HBI.out
            case j2 => exact Nat.le_trans HNI.out (by decide)
            case j3 =>
              intro v3 w3 hb3
              have HB3 : Aside0 (Bu W0 w3 v3 (l1 ++ 46 :: List.replicate (i + 1) 48)) := ⟨by rw [List.replicate_succ', List.append_assoc] at *; exact hb3⟩
              clear hb3
              go_wp2_with (fail)
              go_roundw
              case rel => exact ⟨i + 1, by omega, by simp, HB3⟩
              case measure => simp [intOf]; omega
end Go.Proofs.YtalfclpjkefldaaGreatDoor.Sp
