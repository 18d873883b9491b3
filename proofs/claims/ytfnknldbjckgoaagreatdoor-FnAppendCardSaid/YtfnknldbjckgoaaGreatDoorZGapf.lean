/-
  MERGED BY PROGRAM (regroup.py): AppF, Alive.
-/
import Derived.Test.YtfnknldbjckgoaaGreatDoorZShortC
import Derived.Test.YtfnknldbjckgoaaGreatDoorZGz0
import Derived.Test.YtfnknldbjckgoaaGreatDoorZSpAll
/-! ## AppF -/
section
namespace Go.Proofs.YtfnknldbjckgoaaGreatDoor.Sp
open Go.RowKit Go.Proofs.YtfnknldbjckgoaaGreatDoorW.PrintWords Go.Proofs.YtfnknldbjckgoaaGreatDoorW.PrintLast Go.Proofs.YtfnknldbjckgoaaGreatDoorW.PrintMore Go.Proofs.YtfnknldbjckgoaaGreatDoor.Dig
set_option linter.unusedVariables false
set_option linter.unusedSimpArgs false
theorem initD_bd {vN b : Nat} {x : Int} (hv0 : 0 < vN) (hbits : Bits (vN : Int) b) (hb : b ≤ 200) (hx : -300 ≤ x ∧ x ≤ 300) : DBd (initD vN x) ∧ (initD vN x).2 ≤ 1000 ∧ -1100000 ≤ (initD vN x).2 := by
  have hvb : vN < 2 ^ b := Int.ofNat_lt.1 (by rw [Int.natCast_pow]; exact hbits.2.1)
  obtain ⟨g1, g2, g3, g4⟩ := initD_inv vN x hv0 (lt_pow (m := 512) hvb (by omega)) (fun hx0 => by
    have h1 := Nat.mul_lt_mul_of_pos_right hvb (Nat.two_pow_pos x.toNat)
    rw [← Nat.pow_add] at h1
    exact lt_pow (m := 512) h1 (by omega)) (by omega)
  exact ⟨⟨g1, g2, by omega, by omega⟩, g4, g3⟩
theorem shortV_bd {vN b p : Nat} {x : Int} (hv0 : 0 < vN) (hbits : Bits (vN : Int) b) (hb : b ≤ 200) (hx : -300 ≤ x ∧ x ≤ 300) : DBd (shortV vN b p x) := by
  obtain ⟨h, h1, h2⟩ := initD_bd hv0 hbits hb hx
  unfold shortV
  obtain ⟨g1, g2⟩ := rsS_len (decide (vN * 2 ^ (p + 1 - b) % 4 < 2)) (initD (vN * 2 ^ (p + 1 - b) - 1) (x + b - (p + 1))).1 (initD (vN * 2 ^ (p + 1 - b) + 1) (x + b - (p + 1))).1 (initD vN x) 0 (initD vN x).1
  have h3 := h.len
  exact ⟨rsS_dc _ _ _ _ h.dc _ _, by omega, by omega, by omega⟩
theorem appK_c (g p vN b : Nat) (m x k ch : Int) (neg : Bool) (w0 W0 w : World) (v : Value) (l : List Int) (h : Own w0 W0 g p m neg (vN : Int) x b) (hv0 : 0 < vN) (hbits : Bits (vN : Int) b) (hbp : b ≤ p) (hp : p ≤ 200) (hx : -300 ≤ x ∧ x ≤ 300) (hb : Bu W0 w v l) (hl : l.length ≤ 900000) (hT : Pw W0) (hL : Leaf W0) (hTb : Tb W0) (hk : -10 ≤ k ∧ k ≤ 1000)
    (hch : ch = 101 ∨ ch = 69 ∨ ch = 102 ∨ ch = 103 ∨ ch = 71) :
    Calls Tryz.prog 38 #[.pointer (some ⟨g, 0, none⟩), v, .int .u8 ch, .int .i64 k] w (BuPost W0 ((l ++ sgn1 neg) ++ finT vN b p x ch k)) :=
  appD_c g p vN b m x k ch neg w0 W0 w v l h hv0 hbits hbp hp hx hb hl hT hL hTb hk hch (fun _ => shortV_bd hv0 hbits (by omega) hx)
    (fun _ W bb g1 R1 hW hbb hd => roundShort_c g p vN b bb g1 m x neg w0 W0 W R1 h hv0 hbits hbp hp hx hL hTb hW hbb hd)
set_option maxHeartbeats 1600000 in
set_option maxRecDepth 100000 in
/-- impl.Text at a Real of whatever form, over any contract of Append. -/
theorem textR_c (p b n : Nat) (m f ch k : Int) (neg : Bool) (A : Option Addr) (mm cc : Nat) (x v : Int) (X T : List Int) (w : World) (h : ROk w p m f A mm cc x v b n X) (hk : -100000 ≤ k ∧ k ≤ 100000)
    (HA0 : ∀ W0 W g (vv : Value), Below w.heap.size w W0 → Fl (w.alloc (.cells #[.int .u64 p, .int .i64 m, .int .i64 f, .bool neg, .slice A mm cc, .int .i64 x] 25)) W0 g p m f neg v x b n → Bu W0 W vv [] → Calls Tryz.prog 38 #[.pointer (some ⟨g, 0, none⟩), vv, .int .u8 ch, .int .i64 k] W (BuPost W0 T)) :
    Calls Tryz.prog 14 #[.agg #[.int .u64 p, .int .i64 m, .int .i64 f, .bool neg, .slice A mm cc, .int .i64 x], .int .u8 ch, .int .i64 k] w fun e w' => e = .returned (.string (strOfNums T)) ∧ Below w.heap.size w w' := by
  have hu := Tryz.underlying25
  have HB0 := Aside0.mk (below_alloc (Below.refl w.heap.size w) (.cells #[.int .u64 p, .int .i64 m, .int .i64 f, .bool neg, .slice A mm cc, .int .i64 x] 25))
  have HEX := Aside0.mk (exact_fl p m f neg A mm cc x v b n X _ (h.below HB0.out))
  have HA := Aside0.mk HA0
  clear HA0 h
  go_enter Tryz.func14, Tryz.ntmps14
  go_wp2_with (fail)
  refine HEX.out.mono ?_
  rintro e w1 ⟨g, rfl, hs, hb1⟩
  have HB1 := Aside0.mk (below_step HB0.out hb1)
  have HT := Aside0.mk (text_any g ch k T w1 hk (fun W vv h1 => HA.out w1 W g vv HB1.out hs h1))
  clear hs hb1
  go_wp2_with (fail)
  refine HT.out.mono ?_
  rintro e w2 ⟨rfl, hb2⟩
  have HB2 := Aside0.mk (below_step HB1.out hb2)
  clear hb2 HT
  go_wp2_with (fail)
  go_ret
  exact ⟨rfl, HB2.out⟩
end Go.Proofs.YtfnknldbjckgoaaGreatDoor.Sp
end

/-! ## Alive -/
section
namespace Go.Proofs.YtfnknldbjckgoaaGreatDoor.Sp
open Go.RowKit Go.Proofs.YtfnknldbjckgoaaGreatDoorW.PrintWords Go.Proofs.YtfnknldbjckgoaaGreatDoorW.PrintLast Go.Proofs.YtfnknldbjckgoaaGreatDoorW.PrintMore Go.Proofs.YtfnknldbjckgoaaGreatDoor.Dig
set_option linter.unusedVariables false
set_option linter.unusedSimpArgs false
theorem finT_half : finT 1 1 2 (-1) 103 (-1) = [48, 46, 53] := by decide +kernel
theorem tz_one : Tz (1 : Int) 0 := ⟨0, by decide⟩
theorem bits_one : Bits (1 : Int) 1 := ⟨by decide, by decide, .inr (by decide)⟩
theorem pw_below {w w' : World} (h : Pw w) (hb : Below w.heap.size w w') : Pw w' := ((Go.Lib.tabBelow_of_tabIs h).on hb).here
theorem tb_below {w w' : World} (h : Tb w) (hb : Below w.heap.size w w') : Tb w' := h.kept (Kept.of_below (S := fun _ => False) hb) (fun h => h)
set_option maxHeartbeats 1600000 in
set_option maxRecDepth 100000 in
theorem alive_c (w : World) (hT : Pw w) (hL : Leaf w) (hTb : Tb w) : Calls Tryz.prog 20 #[] w fun e w' => e = .returned (.bool true) ∧ Below w.heap.size w w' := by
  have HTX : Aside0 (∀ W A c, Below w.heap.size w W → Ws W (.slice A 1 c) [1] → Calls Tryz.prog 14 #[.agg #[.int .u64 2, .int .i64 0, .int .i64 1, .bool false, .slice A 1 c, .int .i64 (-1)], .int .u8 103, .int .i64 (-1)] W fun e w' => e = .returned (.string ⟨#[48, 46, 53]⟩) ∧ Below W.heap.size W w') := ⟨fun W A c hW hws => by
    have hev : ev BW [1] = 1 := by rw [ev_cons, ev_nil]; omega
    have hr : ROk W 2 0 1 A 1 c (-1) 1 1 0 [1] := ⟨⟨by omega, by omega⟩, ⟨by omega, by omega⟩, .inr ⟨rfl, hws, by simp, hev, by omega, bits_one, tz_one, by omega, by omega, by omega⟩⟩
    have h := textR_c 2 1 0 0 1 103 (-1) false A 1 c (-1) 1 [1] [48, 46, 53] W hr (by omega) (fun W0 W1 g vv hb0 ho hbu => by
      rcases ho with ⟨_, ho, _, _, _⟩ | ⟨hf, _⟩
      · have h1 := appK_c g 2 1 1 0 (-1) (-1) 103 false _ W0 W1 vv [] ho (by omega) bits_one (by omega) (by omega) (by omega) hbu (by simp) (pw_below (pw_below hT hW) hb0) ((hL.below hW).below hb0) (tb_below (tb_below hTb hW) hb0) (by omega) (by omega)
        rw [show (([] : List Int) ++ sgn1 false) ++ finT 1 1 2 (-1) 103 (-1) = finT 1 1 2 (-1) 103 (-1) from rfl, finT_half] at h1
        exact h1
      · rcases hf with h | h <;> exact absurd h (by decide))
    exact h⟩
  clear hT hL hTb
  go_enter Tryz.func20, Tryz.ntmps20
  go_wp2_with (fail)
  refine (laws_half.calls 2 0 1 false [1] (-1) w rfl).mono ?_
  rintro e w1 ⟨v4, rfl, hr, hb⟩
  have HB1 := Aside0.mk hb
  obtain ⟨A, c, rfl, h1, h2⟩ := Kd.R_reads hr
  have HC := Aside0.mk (HTX.out w1 A c HB1.out ⟨A, c, rfl, h1, h2, okd_cons.2 ⟨by rw [BW_def]; omega, okd_nil _⟩⟩)
  clear hr hb h1 h2
  go_wp2_with (fail)
  refine HC.out.mono ?_
  rintro e w2 ⟨rfl, hb2⟩
  have HB2 := Aside0.mk (below_step HB1.out hb2)
  clear hb2 HC HTX
  go_wp2_with (fail)
  go_ret
  exact ⟨rfl, HB2.out⟩
end Go.Proofs.YtfnknldbjckgoaaGreatDoor.Sp
end
