/-
  CONTRACT of Float.Append at a finite Float in the format p.
-/
import Derived.Test.YtfnknldbjckgoaaGreatDoorZFmtP
import Derived.Test.YtfnknldbjckgoaaGreatDoorZGtxb
namespace Go.Proofs.YtfnknldbjckgoaaGreatDoor.Sp
open Go.RowKit Go.Proofs.YtfnknldbjckgoaaGreatDoorW.PrintWords Go.Proofs.YtfnknldbjckgoaaGreatDoorW.PrintLast Go.Proofs.YtfnknldbjckgoaaGreatDoorW.PrintMore Go.Proofs.YtfnknldbjckgoaaGreatDoor.Dig
set_option linter.unusedVariables false
set_option linter.unusedSimpArgs false
set_option maxHeartbeats 3200000 in
set_option maxRecDepth 100000 in
theorem appP_c (g p vN b : Nat) (m x k : Int) (neg : Bool) (w0 W0 w : World) (v : Value) (l : List Int) (h : Own w0 W0 g p m neg (vN : Int) x b) (hv0 : 0 < vN) (hbits : Bits (vN : Int) b) (hbp : b ≤ p) (hp : p ≤ 448) (hx : -1000000 ≤ x ∧ x ≤ 1000000) (hb : Bu W0 w v l) (hl : l.length ≤ 900000) (hT : Pw W0) (hTb : Tb W0) :
    Calls Tryz.prog 38 #[.pointer (some ⟨g, 0, none⟩), v, .int .u8 112, .int .i64 k] w (BuPost W0 ((l ++ sgn1 neg) ++ fmtPT vN b x)) := by
  have HC : Aside0 (∀ W v' l', Bu W0 W v' l' → l'.length ≤ 1000000 → Calls Tryz.prog 49 #[.pointer (some ⟨g, 0, none⟩), v'] W (BuPost W0 (l' ++ fmtPT vN b x))) := ⟨fun W v' l' h1 h2 => fmtP_c g p vN b m x neg w0 W0 W v' l' h hv0 hbits hbp hp hx h1 h2 hT hTb⟩
  obtain ⟨mb, L, R, c, hF, hC, hev, h64, hb64⟩ := h.flt
  have HFA : Aside0 (∀ W, Below W0.heap.size W0 W → Flt W g mb p m 0 1 neg L.length c ((b : Int) + x) (L ++ R)) := ⟨fun W hW => hF.below hW⟩
  have HB := Aside0.mk hb
  have HN := Aside0.mk hl
  obtain ⟨X, hX⟩ : ∃ X, X = fmtPT vN b x := ⟨_, rfl⟩
  obtain ⟨E, hE⟩ : ∃ E : Int, E = (b : Int) + x := ⟨_, rfl⟩
  rw [← hX] at HC ⊢
  rw [← hE] at HFA
  have hFw := HFA.out w hb.bel
  obtain ⟨c0, c1, c2, c3, c4, c5, c6, f0, f1, f2, f3, f4, f5, f6⟩ := blk7 hFw.flt
  have lg := hp_lt hFw.flt
  clear h hF hC hev h64 hb64 hFw hb hX hE hv0 hbits hbp hp hx hT hTb hl
  cases neg with
  | true =>
    obtain ⟨l1, hl1⟩ : ∃ l1, l1 = l ++ sgn1 true := ⟨_, rfl⟩
    have HL1 := Aside0.mk hl1
    have HN1 : Aside0 (l1.length ≤ 900001) := ⟨by have := HN.out; rw [hl1]; simp [sgn1]; omega⟩
    clear hl1
    go_enter Tryz.func38, Tryz.ntmps38
    go_wp2_with (with_reducible refine bu_byte rfl _ _ rfl W0 v l 45 rfl ?h1 rfl ?h2 ?h3)
    case h1 => exact HB.out
    case h2 => exact Nat.le_trans HN.out (by decide)
    case h3 =>
      intro v1 w1 hb1
      have HB1 : Aside0 (Bu W0 w1 v1 l1) := ⟨by rw [HL1.out]; exact hb1⟩
      have HF1 := Aside0.mk (HC.out w1 v1 l1 HB1.out (Nat.le_trans HN1.out (by decide)))
      clear hb1 c0 c1 c2 c3 c4 c5 c6 f0 f1 f2 f3 f4 f5 f6 lg
      obtain ⟨c0, c1, c2, c3, c4, c5, c6, f0, f1, f2, f3, f4, f5, f6⟩ := blk7 (HFA.out w1 HB1.out.bel).flt
      have lg := hp_lt (HFA.out w1 HB1.out.bel).flt
      go_wp2_with (go_at_call 49; refine HF1.out.mono ?_; rintro e w2 ⟨v2, rfl, hb2⟩; have HB2 := Aside0.mk hb2; clear hb2)
      go_ret
      exact ⟨_, rfl, by rw [← HL1.out]; exact HB2.out⟩
  | false =>
    have HF1 := Aside0.mk (HC.out w v l HB.out (Nat.le_trans HN.out (by decide)))
    go_enter Tryz.func38, Tryz.ntmps38
    go_wp2_with (go_at_call 49; refine HF1.out.mono ?_; rintro e w2 ⟨v2, rfl, hb2⟩; have HB2 := Aside0.mk hb2; clear hb2)
    go_ret
    exact ⟨_, rfl, by rw [show l ++ sgn1 false = l from List.append_nil _]; exact HB2.out⟩
end Go.Proofs.YtfnknldbjckgoaaGreatDoor.Sp
