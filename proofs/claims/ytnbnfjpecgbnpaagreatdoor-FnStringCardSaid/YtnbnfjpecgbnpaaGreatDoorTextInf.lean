/-
  CONTRACTS of Float.Append, Float.Text, Float.String at infinities.
-/
import Derived.Test.YtnbnfjpecgbnpaaGreatDoorGexa
import Derived.Test.YtnbnfjpecgbnpaaGreatDoorBuf
namespace Go.Proofs.YtnbnfjpecgbnpaaGreatDoor.Sp
open Go.RowKit Go.Proofs.YtnbnfjpecgbnpaaGreatDoorW.PrintWords Go.Proofs.YtnbnfjpecgbnpaaGreatDoorW.PrintLast Go.Proofs.YtnbnfjpecgbnpaaGreatDoorW.PrintMore Go.Proofs.YtnbnfjpecgbnpaaGreatDoor.Dig
set_option linter.unusedVariables false
set_option linter.unusedSimpArgs false
/-- The text of an infinity. -/
def infT (neg : Bool) : List Int := (if neg then 45 else 43) :: [73, 110, 102]
set_option maxHeartbeats 1600000 in
set_option maxRecDepth 100000 in
theorem append_inf (g p : Nat) (m ch k : Int) (neg : Bool) (W0 w : World) (v : Value) (l : List Int) (h : Spc w g p m 2 neg) (hb : Bu W0 w v l) (hg : g < W0.heap.size) (hl : l.length ≤ 1000000) :
    Calls Tryz.prog 34 #[.pointer (some ⟨g, 0, none⟩), v, .int .u8 ch, .int .i64 k] w fun e w' => ∃ v', e = .returned v' ∧ Bu W0 w' v' (l ++ infT neg) := by
  have HS : Aside0 (∀ w1 v1 l1, Bu W0 w1 v1 l1 → Spc w1 g p m 2 neg) := ⟨fun w1 v1 l1 h1 => (h1.bel.block g hg).trans ((hb.bel.block g hg).symm.trans h)⟩
  have HB := Aside0.mk hb
  obtain ⟨c0, c1, c2, c3, c4, c5, c6, f0, f1, f2, f3, f4, f5, f6⟩ := blk7 h.blk
  have lg := hp_lt h.blk
  obtain ⟨A, n, c, rfl⟩ : ∃ A n c, v = .slice A n c := by
    obtain ⟨A, c, h1, _⟩ := hb.slice
    exact ⟨A, _, c, h1⟩
  clear h hb
  cases neg with
  | true =>
    go_enter Tryz.func34, Tryz.ntmps34
    go_wp2_with (with_reducible refine bu_byte rfl _ _ rfl W0 (.slice A n c) l 45 rfl ?h1 rfl ?h2 ?h3)
    case h1 => exact HB.out
    case h2 => exact Nat.le_trans hl (by omega)
    case h3 =>
      intro v1 w1 hb1
      have HB1 := Aside0.mk hb1
      have hl1 : (l ++ [45]).length ≤ 1000001 := by simp; omega
      have HL1 := Aside0.mk hl1
      clear c0 c1 c2 c3 c4 c5 c6 f0 f1 f2 f3 f4 f5 f6 lg hl1
      obtain ⟨c0, c1, c2, c3, c4, c5, c6, f0, f1, f2, f3, f4, f5, f6⟩ := blk7 (HS.out w1 v1 _ hb1).blk
      have lg := hp_lt (HS.out w1 v1 _ hb1).blk
      clear hb1
      go_wp2_with (with_reducible refine bu_str rfl _ _ 9 rfl Tryz.underlying9 W0 v1 (l ++ [45]) rfl ?k1 ⟨#[73, 110, 102]⟩ rfl ?k2 ?k3)
      case k1 => exact HB1.out
      case k2 => exact Nat.le_trans (Nat.add_le_add_right HL1.out _) (by decide)
      case k3 =>
        intro v2 w2 hb2
        have HB2 := Aside0.mk hb2
        clear hb2
        go_wp2_with (fail)
        go_ret
        exact ⟨_, rfl, HB2.out⟩
  | false =>
    go_enter Tryz.func34, Tryz.ntmps34
    go_wp2_with (with_reducible refine bu_byte rfl _ _ rfl W0 (.slice A n c) l 43 rfl ?h1 rfl ?h2 ?h3)
    case h1 => exact HB.out
    case h2 => exact Nat.le_trans hl (by omega)
    case h3 =>
      intro v1 w1 hb1
      have HB1 := Aside0.mk hb1
      have hl1 : (l ++ [43]).length ≤ 1000001 := by simp; omega
      have HL1 := Aside0.mk hl1
      clear c0 c1 c2 c3 c4 c5 c6 f0 f1 f2 f3 f4 f5 f6 lg hl1
      obtain ⟨c0, c1, c2, c3, c4, c5, c6, f0, f1, f2, f3, f4, f5, f6⟩ := blk7 (HS.out w1 v1 _ hb1).blk
      have lg := hp_lt (HS.out w1 v1 _ hb1).blk
      clear hb1
      go_wp2_with (with_reducible refine bu_str rfl _ _ 9 rfl Tryz.underlying9 W0 v1 (l ++ [43]) rfl ?k1 ⟨#[73, 110, 102]⟩ rfl ?k2 ?k3)
      case k1 => exact HB1.out
      case k2 => exact Nat.le_trans (Nat.add_le_add_right HL1.out _) (by decide)
      case k3 =>
        intro v2 w2 hb2
        have HB2 := Aside0.mk hb2
        clear hb2
        go_wp2_with (fail)
        go_ret
        exact ⟨_, rfl, HB2.out⟩
end Go.Proofs.YtnbnfjpecgbnpaaGreatDoor.Sp
