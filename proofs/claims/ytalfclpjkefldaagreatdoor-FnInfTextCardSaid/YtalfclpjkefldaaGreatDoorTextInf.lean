/-
  CONTRACTS of Float.Append, Float.Text, Float.String at infinities.
-/
import Derived.Test.YtalfclpjkefldaaGreatDoorGexa
import Derived.Test.YtalfclpjkefldaaGreatDoorBuf
namespace Go.Proofs.YtalfclpjkefldaaGreatDoor.Sp
open Go.RowKit Go.Proofs.YtalfclpjkefldaaGreatDoorW.PrintWords Go.Proofs.YtalfclpjkefldaaGreatDoorW.PrintLast Go.Proofs.YtalfclpjkefldaaGreatDoorW.PrintMore Go.Proofs.YtalfclpjkefldaaGreatDoor.Dig
set_option linter.unusedVariables false
set_option linter.unusedSimpArgs false
/-- The text of an infinity. -/
def infT (neg : Bool) : List Int := (if neg then 45 else 43) :: [73, 110, 102]
set_option maxHeartbeats 1600000 in
set_option maxRecDepth 100000 in
theorem append_inf (g p : Nat) (m ch k : Int) (neg : Bool) (W0 w : World) (v : Value) (l : List Int) (h : Spc w g p m 2 neg) (hb : Bu W0 w v l) (hg : g < W0.heap.size) (hl : l.length ≤ 1000000) :
    Calls Tryz.prog 47 #[.pointer (some ⟨g, 0, none⟩), v, .int .u8 ch, .int .i64 k] w fun e w' => ∃ v', e = .returned v' ∧ Bu W0 w' v' (l ++ infT neg) := by
  have HS : Aside0 (∀ w1 v1 l1, Bu W0 w1 v1 l1 → Spc w1 g p m 2 neg) := ⟨fun w1 v1 l1 h1 => (h1.bel.block g hg).trans ((hb.bel.block g hg).symm.trans h)⟩
  have HB := Aside0.mk hb
  obtain ⟨c0, c1, c2, c3, c4, c5, c6, f0, f1, f2, f3, f4, f5, f6⟩ := blk7 h.blk
  have lg := hp_lt h.blk
  obtain ⟨A, n, c, rfl⟩ : ∃ A n c, v = .slice A n c := by
    obtain ⟨A, c, h1, _⟩ := hb.slice
    exact ⟨A, _, c, h1⟩
  clear h hb
  cases neg with
  | true =>
    go_enter Tryz.func47, Tryz.ntmps47
    go_wp2_with (with_reducible refine bu_byte rfl _ _ rfl W0 (.slice A n c) l 45 rfl ?h1 rfl ?h2 ?h3)
    case h1 => exact HB.out
    case h2 => exact Nat.le_trans hl (by omega)
    case h3 =>
      intro v1 w1 hb1
      have HB1 := Aside0.mk hb1
      have hl1 : (l ++ [45]).length ≤ 1000001 := by simp; omega
      have HL1 := Aside0.mk hl1
      clear c0 c1 c2 c3 c4 c5 c6 f0 f1 f2 f3 f4 f5 f6 lg hl1
      obtain ⟨c0, c1, c2, c3, c4, c5, c6, f0, f1, f2, f3, f4, f5, f6⟩ := blk7 (HS.out w1 v1 _ hb1).blk
      have lg := hp_lt (HS.out w1 v1 _ hb1).blk
      clear hb1
      go_wp2_with (with_reducible refine bu_str rfl _ _ 9 rfl Tryz.underlying9 W0 v1 (l ++ [45]) rfl ?k1 ⟨#[73, 110, 102]⟩ rfl ?k2 ?k3)
      case k1 => exact HB1.out
      case k2 => exact Nat.le_trans (Nat.add_le_add_right HL1.out _) (by decide)
      case k3 =>
        intro v2 w2 hb2
        have HB2 := Aside0.mk hb2
        clear hb2
        go_wp2_with (fail)
        go_ret
        exact ⟨_, rfl, HB2.out⟩
  | false =>
    go_enter Tryz.func47, Tryz.ntmps47
    go_wp2_with (with_reducible refine bu_byte rfl _ _ rfl W0 (.slice A n c) l 43 rfl ?h1 rfl ?h2 ?h3)
    case h1 => exact HB.out
    case h2 => exact Nat.le_trans hl (by omega)
    case h3 =>
      intro v1 w1 hb1
      have HB1 := Aside0.mk hb1
      have hl1 : (l ++ [43]).length ≤ 1000001 := by simp; omega
      have HL1 := Aside0.mk hl1
      clear c0 c1 c2 c3 c4 c5 c6 f0 f1 f2 f3 f4 f5 f6 lg hl1
      obtain ⟨c0, c1, c2, c3, c4, c5, c6, f0, f1, f2, f3, f4, f5, f6⟩ := blk7 (HS.out w1 v1 _ hb1).blk
      have lg := hp_lt (HS.out w1 v1 _ hb1).blk
      clear hb1
      go_wp2_with (with_reducible refine bu_str rfl _ _ 9 rfl Tryz.underlying9 W0 v1 (l ++ [43]) rfl ?k1 ⟨#[73, 110, 102]⟩ rfl ?k2 ?k3)
      case k1 => exact HB1.out
      case k2 => exact Nat.le_trans (Nat.add_le_add_right HL1.out _) (by decide)
      case k3 =>
        intro v2 w2 hb2
        have HB2 := Aside0.mk hb2
        clear hb2
        go_wp2_with (fail)
        go_ret
        exact ⟨_, rfl, HB2.out⟩
set_option maxHeartbeats 1600000 in
set_option maxRecDepth 100000 in
theorem text_inf (g p : Nat) (m ch k : Int) (neg : Bool) (w : World) (h : Spc w g p m 2 neg) (hk : -100000 ≤ k ∧ k ≤ 100000) :
    Calls Tryz.prog 34 #[.pointer (some ⟨g, 0, none⟩), .int .u8 ch, .int .i64 k] w fun e w' => e = .returned (.string (strOfNums (infT neg))) ∧ Below w.heap.size w w' := by
  have HS := Aside0.mk h
  have HG := Aside0.mk (hp_lt h.blk)
  clear h
  obtain ⟨cap, hcap⟩ : ∃ cap : Int, cap = if 0 < k then 10 + k else 10 := ⟨_, rfl⟩
  have hc0 : 0 ≤ cap ∧ cap ≤ 200000 := by split at hcap <;> omega
  have hmk := make_ints 47 5 .u8 1 Tryz.underlying47 infoU8 (by omega) 0 cap (by omega) hc0.1 (by omega)
  have HA : Aside0 (∀ W, Spc W g p m 2 neg → Bu w W (.slice (some ⟨w.heap.size, 0, none⟩) 0 cap.toNat) [] → Calls Tryz.prog 47 #[.pointer (some ⟨g, 0, none⟩), .slice (some ⟨w.heap.size, 0, none⟩) 0 cap.toNat, .int .u8 ch, .int .i64 k] W fun e w' => ∃ v', e = .returned v' ∧ Bu w w' v' (infT neg)) := ⟨fun W h1 h2 => append_inf g p m ch k neg w W _ [] h1 h2 HG.out (by simp)⟩
  have HM : Aside0 (Bu w (w.alloc (.cells (Array.replicate cap.toNat (.int .u8 0)) 5)) (.slice (some ⟨w.heap.size, 0, none⟩) 0 cap.toNat) []) := ⟨bu_made w w (Below.refl _ _) _ (by omega)⟩
  have HS2 : Aside0 (Spc (w.alloc (.cells (Array.replicate cap.toNat (.int .u8 0)) 5)) g p m 2 neg) := ⟨hp_below HS.out (below_alloc (Below.refl _ _) _)⟩
  have h0n : (0 : Int).toNat = 0 := rfl
  rw [h0n] at hmk
  by_cases hk0 : 0 < k
  · have hw : IntKind.i64.wrap (10 + k) = cap := by rw [IntWalk.i64_in _ (by omega), hcap, if_pos hk0]
    clear hcap hc0
    go_enter Tryz.func34, Tryz.ntmps34
    go_wp2_with (go_at_call 47; refine (HA.out _ HS2.out HM.out).mono ?_; rintro e w1 ⟨v1, rfl, hb1⟩; have hcv := bu_string hb1 9 Tryz.underlying9; have HB1 := Aside0.mk hb1.bel; clear hb1)
    go_ret
    exact ⟨rfl, HB1.out⟩
  · have hw : cap = 10 := by rw [hcap, if_neg hk0]
    subst hw
    clear hcap hc0
    go_enter Tryz.func34, Tryz.ntmps34
    go_wp2_with (go_at_call 47; refine (HA.out _ HS2.out HM.out).mono ?_; rintro e w1 ⟨v1, rfl, hb1⟩; have hcv := bu_string hb1 9 Tryz.underlying9; have HB1 := Aside0.mk hb1.bel; clear hb1)
    go_ret
    exact ⟨rfl, HB1.out⟩
end Go.Proofs.YtalfclpjkefldaaGreatDoor.Sp
