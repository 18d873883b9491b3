/-
  CONTRACTS of Float.Append at nought, whatever format and sign.
-/
import Derived.Test.YtfnknldbjckgoaaGreatDoorZGz0
import Derived.Test.YtfnknldbjckgoaaGreatDoorZGtxb
import Derived.Deep.CutBlock
namespace Go.Proofs.YtfnknldbjckgoaaGreatDoor.Sp
open Go.RowKit Go.Proofs.YtfnknldbjckgoaaGreatDoorW.PrintWords Go.Proofs.YtfnknldbjckgoaaGreatDoorW.PrintLast Go.Proofs.YtfnknldbjckgoaaGreatDoorW.PrintMore Go.Proofs.YtfnknldbjckgoaaGreatDoor.Dig
set_option linter.unusedVariables false
set_option linter.unusedSimpArgs false
set_option maxHeartbeats 3200000 in
set_option maxRecDepth 100000 in
theorem rs0 (b g : Nat) (w : World) (h : Dec0 w b) : Calls Tryz.prog 53 #[.pointer (some ⟨b, 0, none⟩), .pointer (some ⟨g, 0, none⟩)] w fun e w' => e = .returned (.tuple #[]) ∧ Below w.heap.size w w' := by
  obtain ⟨c0, c1, f0, f1⟩ := blk2 (show hp w b = some (.cells #[.slice none 0 0, .int .i64 0] 87 (0, 0)) from h)
  have lg := hp_lt h
  clear h
  go_enter Tryz.func53, Tryz.ntmps53
  go_wp2_with (fail)
  refine bodyPost_ret (v := .tuple #[]) (by simp [results, Tryz.results53, go_sem]) rfl ?_
  exact ⟨rfl, Below.refl _ _⟩
set_option maxHeartbeats 3200000 in
set_option maxRecDepth 100000 in
theorem fmtEm (ch : Int) (W0 w : World) (v : Value) (l : List Int) (hb : Bu W0 w v l) (hl : l.length ≤ 1000000) :
    Calls Tryz.prog 55 #[v, .int .u8 ch, .int .i64 (-1), .agg #[.slice none 0 0, .int .i64 0]] w (BuPost W0 (l ++ [48] ++ [ch, 43, 48, 48])) := by
  have HB : Aside0 (Bu W0 (w.alloc (.cells #[.slice none 0 0, .int .i64 0] 87)) v l) := ⟨hb.alloc _⟩
  have KX : Aside0 (hp (w.alloc (.cells #[.slice none 0 0, .int .i64 0] 87)) w.heap.size = some (.cells #[.slice none 0 0, .int .i64 0] 87 (0, 0))) := ⟨hp_new _ _ _ rfl⟩
  obtain ⟨l1, hl1⟩ : ∃ l1, l1 = l ++ [48] := ⟨_, rfl⟩
  have HL1 := Aside0.mk hl1
  have HN1 : Aside0 (l1.length ≤ 1000001) := ⟨by rw [hl1]; simp; omega⟩
  rw [← hl1]
  have hu := Tryz.underlying87
  clear hb hl1
  go_enter Tryz.func55, Tryz.ntmps55
  go_upto_region 4 with (fail)
  obtain ⟨w0, hw0⟩ : ∃ w0, w0 = w.alloc (.cells #[.slice none 0 0, .int .i64 0] 87) := ⟨_, rfl⟩
  rw [← hw0] at HB KX ⊢
  clear hw0
  obtain ⟨c0, c1, f0, f1⟩ := blk2 KX.out
  have lg0 := hp_lt KX.out
  go_wp2_with (with_reducible refine bu_byte' rfl _ _ rfl W0 v l 48 rfl ?h1 rfl ?h2 ?h3)
  case h1 => exact HB.out
  case h2 => exact Nat.le_trans hl (by decide)
  case h3 =>
    intro v1 w1 hb1 hf1
    have HB1 : Aside0 (Bu W0 w1 v1 l1) := ⟨by rw [HL1.out]; exact hb1⟩
    have KX1 := Aside0.mk (hf1 _ _ _ _ KX.out (by decide))
    have HNZ : Aside0 (l1.length ≤ 3000000) := ⟨Nat.le_trans HN1.out (by decide)⟩
    clear hb1 hf1 c0 c1 f0 f1 lg0
    obtain ⟨c0, c1, f0, f1⟩ := blk2 KX1.out
    have lg1 := hp_lt KX1.out
    obtain ⟨la, hla⟩ : ∃ la, la = l1 ++ [ch] := ⟨_, rfl⟩
    obtain ⟨lb, hlb⟩ : ∃ lb, lb = la ++ [43] := ⟨_, rfl⟩
    obtain ⟨lc, hlc⟩ : ∃ lc, lc = lb ++ [48] := ⟨_, rfl⟩
    have HLA := Aside0.mk hla
    have HLB := Aside0.mk hlb
    have HLC := Aside0.mk hlc
    have HNA : Aside0 (la.length ≤ 3000010) := ⟨by have := HNZ.out; rw [hla]; simp; omega⟩
    have HNB : Aside0 (lb.length ≤ 3000011) := ⟨by have := HNA.out; rw [hlb]; simp; omega⟩
    have HNC : Aside0 (lc.length ≤ 3000012) := ⟨by have := HNB.out; rw [hlc]; simp; omega⟩
    clear hla hlb hlc
    go_wp2_with (with_reducible refine bu_byte' rfl _ _ rfl W0 v1 l1 ch rfl ?a1 rfl ?a2 ?a3)
    case a1 => exact HB1.out
    case a2 => exact Nat.le_trans HNZ.out (by decide)
    case a3 =>
      intro va wa hba hfa
      have HBA : Aside0 (Bu W0 wa va la) := ⟨by rw [HLA.out]; exact hba⟩
      have KXA := Aside0.mk (hfa _ _ _ _ KX1.out (by decide))
      obtain ⟨a0, a1, b0, b1⟩ := blk2 KXA.out
      have lga := hp_lt KXA.out
      clear hba hfa
      go_wp2_with (with_reducible refine bu_byte' rfl _ _ rfl W0 va la 43 rfl ?a1 rfl ?a2 ?a3)
      case a1 => exact HBA.out
      case a2 => exact Nat.le_trans HNA.out (by decide)
      case a3 =>
        intro vb wb hbb hfb
        have HBB : Aside0 (Bu W0 wb vb lb) := ⟨by rw [HLB.out]; exact hbb⟩
        clear hbb hfb
        go_wp2_with (with_reducible refine bu_byte' rfl _ _ rfl W0 vb lb 48 rfl ?a1 rfl ?a2 ?a3)
        case a1 => exact HBB.out
        case a2 => exact Nat.le_trans HNB.out (by decide)
        case a3 =>
          intro vc wc hbc hfc
          have HBC : Aside0 (Bu W0 wc vc lc) := ⟨by rw [HLC.out]; exact hbc⟩
          have HAP := Aside0.mk (appI0 W0 wc vc lc HBC.out (Nat.le_trans HNC.out (by decide)))
          clear hbc hfc
          go_wp2_with (go_at_call 70; refine HAP.out.mono ?_; rintro e wd ⟨vd, rfl, hbd⟩; have HBD := Aside0.mk hbd; clear hbd)
          go_ret
          exact ⟨_, rfl, by have h := HBD.out; rw [HLC.out, HLB.out, HLA.out] at h; simpa using h⟩
set_option maxHeartbeats 3200000 in
set_option maxRecDepth 100000 in
theorem fmtXm (g p : Nat) (m : Int) (neg : Bool) (W0 w : World) (v : Value) (l : List Int) (h : Spc w g p m 0 neg) (hb : Bu W0 w v l) (hl : l.length ≤ 1000000) :
    Calls Tryz.prog 50 #[.pointer (some ⟨g, 0, none⟩), v, .int .i64 (-1)] w (BuPost W0 (l ++ [48, 120, 48] ++ [112, 43, 48, 48])) := by
  have HB := Aside0.mk hb
  obtain ⟨c0, c1, c2, c3, c4, c5, c6, f0, f1, f2, f3, f4, f5, f6⟩ := blk7 h.blk
  have lg := hp_lt h.blk
  obtain ⟨l1, hl1⟩ : ∃ l1, l1 = l ++ [48, 120, 48] := ⟨_, rfl⟩
  have HL1 := Aside0.mk hl1
  have HN1 : Aside0 (l1.length ≤ 1000003) := ⟨by rw [hl1]; simp; omega⟩
  rw [← hl1]
  clear h hb hl1
  go_enter Tryz.func50, Tryz.ntmps50
  go_wp2_with (with_reducible refine bu_str rfl _ _ 9 rfl Tryz.underlying9 W0 v l rfl ?h1 ⟨#[48, 120, 48]⟩ rfl ?h2 ?h3)
  case h1 => exact HB.out
  case h2 => exact Nat.le_trans (Nat.add_le_add_right hl _) (by decide)
  case h3 =>
    intro v1 w1 hb1
    have HB1 : Aside0 (Bu W0 w1 v1 l1) := ⟨by rw [HL1.out]; exact hb1⟩
    clear hb1 c0 c1 c2 c3 c4 c5 c6 f0 f1 f2 f3 f4 f5 f6 lg
    go_wp2_with (with_reducible refine bu_str rfl _ _ 9 rfl Tryz.underlying9 W0 v1 l1 rfl ?k1 ⟨#[112, 43, 48, 48]⟩ rfl ?k2 ?k3)
    case k1 => exact HB1.out
    case k2 => exact Nat.le_trans (Nat.add_le_add_right HN1.out _) (by decide)
    case k3 =>
      intro v2 w2 hb2
      have HB2 := Aside0.mk hb2
      clear hb2
      go_wp2_with (fail)
      go_ret
      exact ⟨_, rfl, HB2.out⟩
set_option maxHeartbeats 3200000 in
set_option maxRecDepth 100000 in
theorem az_gm (g p : Nat) (m : Int) (neg : Bool) (W0 w : World) (v : Value) (l : List Int) (h : Spc w g p m 0 neg) (hb : Bu W0 w v l) (hg : g < W0.heap.size) (hl : l.length ≤ 700000) :
    Calls Tryz.prog 38 #[.pointer (some ⟨g, 0, none⟩), v, .int .u8 103, .int .i64 (-1)] w (BuPost W0 ((l ++ sgn1 neg) ++ [48])) := by
  have HS : Aside0 (∀ w1 v1 l1, Bu W0 w1 v1 l1 → Spc w1 g p m 0 neg) := ⟨fun w1 v1 l1 h1 => (h1.bel.block g hg).trans ((hb.bel.block g hg).symm.trans h)⟩
  have HB := Aside0.mk hb
  have HN := Aside0.mk hl
  obtain ⟨l1, hl1⟩ : ∃ l1, l1 = l ++ sgn1 neg := ⟨_, rfl⟩
  rw [← hl1]
  have HL1 := Aside0.mk hl1
  have HNL : Aside0 (l1.length ≤ 900000) := ⟨by rw [hl1, List.length_append]; cases neg <;> simp [sgn1] <;> omega⟩
  have hu := Tryz.underlying87
  obtain ⟨c0, c1, c2, c3, c4, c5, c6, f0, f1, f2, f3, f4, f5, f6⟩ := blk7 h.blk
  have lg := hp_lt h.blk
  clear h hb hl hl1
  go_enter Tryz.func38, Tryz.ntmps38
  go_upto_if 16 with (fail)
  go_cut [1] (fun v1 wx => Aside0 (Bu W0 wx v1 l1))
  case first => as_aux_lemma =>
    cases neg with
    | true =>
      go_wp2_with (with_reducible refine bu_byte rfl _ _ rfl W0 v l 45 rfl ?h1 rfl ?h2 ?h3)
      case h1 => exact HB.out
      case h2 => exact Nat.le_trans HN.out (by decide)
      case h3 =>
        intro v1 w1 hb1
        have HB1 : Aside0 (Bu W0 w1 v1 l1) := ⟨by rw [HL1.out]; exact hb1⟩
        clear hb1
        go_wp2_with (fail)
        go_meet
        case rel => exact HB1
    | false =>
      have HB1 : Aside0 (Bu W0 w v l1) := ⟨by rw [HL1.out, show l ++ sgn1 false = l from List.append_nil _]; exact HB.out⟩
      go_wp2_with (fail)
      go_meet
      case rel => exact HB1
  case rest =>
    have HB1 := hcut
    clear hcut c0 c1 c2 c3 c4 c5 c6 f0 f1 f2 f3 f4 f5 f6 lg HB
    obtain ⟨v1, hv1⟩ : ∃ v1, v1 = u1 := ⟨_, rfl⟩
    obtain ⟨w1, hw1⟩ : ∃ w1, w1 = wc := ⟨_, rfl⟩
    rw [← hv1, ← hw1] at HB1
    rw [← hv1, ← hw1]
    clear hv1 hw1
    have hs1 := HS.out w1 v1 _ HB1.out
    obtain ⟨c0, c1, c2, c3, c4, c5, c6, f0, f1, f2, f3, f4, f5, f6⟩ := blk7 hs1.blk
    have lg := hp_lt hs1.blk
    have HBD : Aside0 (Bu W0 (w1.alloc (.cells #[.slice none 0 0, .int .i64 0] 87)) v1 l1) := ⟨HB1.out.alloc _⟩
    have HKD : Aside0 (Dec0 (w1.alloc (.cells #[.slice none 0 0, .int .i64 0] 87)) w1.heap.size) := ⟨hp_new _ _ _ rfl⟩
    clear hs1
    go_wp2_with (first | (go_at_call 53; refine (rs0 _ _ _ HKD.out).mono ?_; rintro e wr ⟨rfl, hbr⟩; have HBR := Aside0.mk (HBD.out.below hbr); have HKR := Aside0.mk (hp_below HKD.out hbr); obtain ⟨d0, d1, g0, g1⟩ := blk2 HKR.out; have lgd := hp_lt HKR.out; have HF : Aside0 (Calls Tryz.prog 56 #[v1, .int .i64 0, .agg #[.slice none 0 0, .int .i64 0]] wr (BuPost W0 (l1 ++ [48]))) := Aside0.mk (by have h := fmtF0 0 W0 wr v1 l1 HBR.out (by have := HNL.out; omega) (by omega); simpa [zt, List.append_assoc] using h); clear hbr) | (go_at_call 56; refine HF.out.mono ?_; rintro e w2 ⟨v2, rfl, hb2⟩; have HB2 := Aside0.mk hb2; clear hb2) | fail)
    go_ret
    exact ⟨_, rfl, HB2.out⟩
set_option maxHeartbeats 3200000 in
set_option maxRecDepth 100000 in
theorem az_g0 (g p : Nat) (m : Int) (neg : Bool) (W0 w : World) (v : Value) (l : List Int) (h : Spc w g p m 0 neg) (hb : Bu W0 w v l) (hg : g < W0.heap.size) (hl : l.length ≤ 700000) :
    Calls Tryz.prog 38 #[.pointer (some ⟨g, 0, none⟩), v, .int .u8 103, .int .i64 0] w (BuPost W0 ((l ++ sgn1 neg) ++ [48])) := by
  have HS : Aside0 (∀ w1 v1 l1, Bu W0 w1 v1 l1 → Spc w1 g p m 0 neg) := ⟨fun w1 v1 l1 h1 => (h1.bel.block g hg).trans ((hb.bel.block g hg).symm.trans h)⟩
  have HB := Aside0.mk hb
  have HN := Aside0.mk hl
  obtain ⟨l1, hl1⟩ : ∃ l1, l1 = l ++ sgn1 neg := ⟨_, rfl⟩
  rw [← hl1]
  have HL1 := Aside0.mk hl1
  have HNL : Aside0 (l1.length ≤ 900000) := ⟨by rw [hl1, List.length_append]; cases neg <;> simp [sgn1] <;> omega⟩
  have hu := Tryz.underlying87
  obtain ⟨c0, c1, c2, c3, c4, c5, c6, f0, f1, f2, f3, f4, f5, f6⟩ := blk7 h.blk
  have lg := hp_lt h.blk
  clear h hb hl hl1
  go_enter Tryz.func38, Tryz.ntmps38
  go_upto_if 16 with (fail)
  go_cut [1] (fun v1 wx => Aside0 (Bu W0 wx v1 l1))
  case first => as_aux_lemma =>
    cases neg with
    | true =>
      go_wp2_with (with_reducible refine bu_byte rfl _ _ rfl W0 v l 45 rfl ?h1 rfl ?h2 ?h3)
      case h1 => exact HB.out
      case h2 => exact Nat.le_trans HN.out (by decide)
      case h3 =>
        intro v1 w1 hb1
        have HB1 : Aside0 (Bu W0 w1 v1 l1) := ⟨by rw [HL1.out]; exact hb1⟩
        clear hb1
        go_wp2_with (fail)
        go_meet
        case rel => exact HB1
    | false =>
      have HB1 : Aside0 (Bu W0 w v l1) := ⟨by rw [HL1.out, show l ++ sgn1 false = l from List.append_nil _]; exact HB.out⟩
      go_wp2_with (fail)
      go_meet
      case rel => exact HB1
  case rest =>
    have HB1 := hcut
    clear hcut c0 c1 c2 c3 c4 c5 c6 f0 f1 f2 f3 f4 f5 f6 lg HB
    obtain ⟨v1, hv1⟩ : ∃ v1, v1 = u1 := ⟨_, rfl⟩
    obtain ⟨w1, hw1⟩ : ∃ w1, w1 = wc := ⟨_, rfl⟩
    rw [← hv1, ← hw1] at HB1
    rw [← hv1, ← hw1]
    clear hv1 hw1
    have hs1 := HS.out w1 v1 _ HB1.out
    obtain ⟨c0, c1, c2, c3, c4, c5, c6, f0, f1, f2, f3, f4, f5, f6⟩ := blk7 hs1.blk
    have lg := hp_lt hs1.blk
    have HBD : Aside0 (Bu W0 (w1.alloc (.cells #[.slice none 0 0, .int .i64 0] 87)) v1 l1) := ⟨HB1.out.alloc _⟩
    have HKD : Aside0 (Dec0 (w1.alloc (.cells #[.slice none 0 0, .int .i64 0] 87)) w1.heap.size) := ⟨hp_new _ _ _ rfl⟩
    clear hs1
    go_wp2_with (first | (go_at_call 54; refine (round0 _ _ _ HKD.out).mono ?_; rintro e wr ⟨rfl, hbr⟩; have HBR := Aside0.mk (HBD.out.below hbr); have HKR := Aside0.mk (hp_below HKD.out hbr); obtain ⟨d0, d1, g0, g1⟩ := blk2 HKR.out; have lgd := hp_lt HKR.out; have HF : Aside0 (Calls Tryz.prog 56 #[v1, .int .i64 0, .agg #[.slice none 0 0, .int .i64 0]] wr (BuPost W0 (l1 ++ [48]))) := Aside0.mk (by have h := fmtF0 0 W0 wr v1 l1 HBR.out (by have := HNL.out; omega) (by omega); simpa [zt, List.append_assoc] using h); clear hbr) | (go_at_call 56; refine HF.out.mono ?_; rintro e w2 ⟨v2, rfl, hb2⟩; have HB2 := Aside0.mk hb2; clear hb2) | fail)
    go_ret
    exact ⟨_, rfl, HB2.out⟩
set_option maxHeartbeats 3200000 in
set_option maxRecDepth 100000 in
theorem az_gk (g p : Nat) (k : Int) (m : Int) (neg : Bool) (W0 w : World) (v : Value) (l : List Int) (h : Spc w g p m 0 neg) (hb : Bu W0 w v l) (hg : g < W0.heap.size) (hl : l.length ≤ 700000) (hk : 0 < k ∧ k ≤ 1000000) :
    Calls Tryz.prog 38 #[.pointer (some ⟨g, 0, none⟩), v, .int .u8 103, .int .i64 k] w (BuPost W0 ((l ++ sgn1 neg) ++ [48])) := by
  have HS : Aside0 (∀ w1 v1 l1, Bu W0 w1 v1 l1 → Spc w1 g p m 0 neg) := ⟨fun w1 v1 l1 h1 => (h1.bel.block g hg).trans ((hb.bel.block g hg).symm.trans h)⟩
  have HB := Aside0.mk hb
  have HN := Aside0.mk hl
  obtain ⟨l1, hl1⟩ : ∃ l1, l1 = l ++ sgn1 neg := ⟨_, rfl⟩
  rw [← hl1]
  have HL1 := Aside0.mk hl1
  have HNL : Aside0 (l1.length ≤ 900000) := ⟨by rw [hl1, List.length_append]; cases neg <;> simp [sgn1] <;> omega⟩
  have hu := Tryz.underlying87
  have hkn : ¬ k < 0 := by omega
  have hkb : (k == 0) = false := by rw [beq_eq_false_iff_ne]; omega
  have hkp : 0 < k := hk.1
  obtain ⟨c0, c1, c2, c3, c4, c5, c6, f0, f1, f2, f3, f4, f5, f6⟩ := blk7 h.blk
  have lg := hp_lt h.blk
  clear h hb hl hl1
  go_enter Tryz.func38, Tryz.ntmps38
  go_upto_if 16 with (fail)
  go_cut [1] (fun v1 wx => Aside0 (Bu W0 wx v1 l1))
  case first => as_aux_lemma =>
    cases neg with
    | true =>
      go_wp2_with (with_reducible refine bu_byte rfl _ _ rfl W0 v l 45 rfl ?h1 rfl ?h2 ?h3)
      case h1 => exact HB.out
      case h2 => exact Nat.le_trans HN.out (by decide)
      case h3 =>
        intro v1 w1 hb1
        have HB1 : Aside0 (Bu W0 w1 v1 l1) := ⟨by rw [HL1.out]; exact hb1⟩
        clear hb1
        go_wp2_with (fail)
        go_meet
        case rel => exact HB1
    | false =>
      have HB1 : Aside0 (Bu W0 w v l1) := ⟨by rw [HL1.out, show l ++ sgn1 false = l from List.append_nil _]; exact HB.out⟩
      go_wp2_with (fail)
      go_meet
      case rel => exact HB1
  case rest =>
    have HB1 := hcut
    clear hcut c0 c1 c2 c3 c4 c5 c6 f0 f1 f2 f3 f4 f5 f6 lg HB
    obtain ⟨v1, hv1⟩ : ∃ v1, v1 = u1 := ⟨_, rfl⟩
    obtain ⟨w1, hw1⟩ : ∃ w1, w1 = wc := ⟨_, rfl⟩
    rw [← hv1, ← hw1] at HB1
    rw [← hv1, ← hw1]
    clear hv1 hw1
    have hs1 := HS.out w1 v1 _ HB1.out
    obtain ⟨c0, c1, c2, c3, c4, c5, c6, f0, f1, f2, f3, f4, f5, f6⟩ := blk7 hs1.blk
    have lg := hp_lt hs1.blk
    have HBD : Aside0 (Bu W0 (w1.alloc (.cells #[.slice none 0 0, .int .i64 0] 87)) v1 l1) := ⟨HB1.out.alloc _⟩
    have HKD : Aside0 (Dec0 (w1.alloc (.cells #[.slice none 0 0, .int .i64 0] 87)) w1.heap.size) := ⟨hp_new _ _ _ rfl⟩
    clear hs1
    go_wp2_with (first | (go_at_call 54; refine (round0 _ _ _ HKD.out).mono ?_; rintro e wr ⟨rfl, hbr⟩; have HBR := Aside0.mk (HBD.out.below hbr); have HKR := Aside0.mk (hp_below HKD.out hbr); obtain ⟨d0, d1, g0, g1⟩ := blk2 HKR.out; have lgd := hp_lt HKR.out; have HF : Aside0 (Calls Tryz.prog 56 #[v1, .int .i64 0, .agg #[.slice none 0 0, .int .i64 0]] wr (BuPost W0 (l1 ++ [48]))) := Aside0.mk (by have h := fmtF0 0 W0 wr v1 l1 HBR.out (by have := HNL.out; omega) (by omega); simpa [zt, List.append_assoc] using h); clear hbr) | (go_at_call 56; refine HF.out.mono ?_; rintro e w2 ⟨v2, rfl, hb2⟩; have HB2 := Aside0.mk hb2; clear hb2) | fail)
    go_ret
    exact ⟨_, rfl, HB2.out⟩
set_option maxHeartbeats 3200000 in
set_option maxRecDepth 100000 in
theorem az_Gm (g p : Nat) (m : Int) (neg : Bool) (W0 w : World) (v : Value) (l : List Int) (h : Spc w g p m 0 neg) (hb : Bu W0 w v l) (hg : g < W0.heap.size) (hl : l.length ≤ 700000) :
    Calls Tryz.prog 38 #[.pointer (some ⟨g, 0, none⟩), v, .int .u8 71, .int .i64 (-1)] w (BuPost W0 ((l ++ sgn1 neg) ++ [48])) := by
  have HS : Aside0 (∀ w1 v1 l1, Bu W0 w1 v1 l1 → Spc w1 g p m 0 neg) := ⟨fun w1 v1 l1 h1 => (h1.bel.block g hg).trans ((hb.bel.block g hg).symm.trans h)⟩
  have HB := Aside0.mk hb
  have HN := Aside0.mk hl
  obtain ⟨l1, hl1⟩ : ∃ l1, l1 = l ++ sgn1 neg := ⟨_, rfl⟩
  rw [← hl1]
  have HL1 := Aside0.mk hl1
  have HNL : Aside0 (l1.length ≤ 900000) := ⟨by rw [hl1, List.length_append]; cases neg <;> simp [sgn1] <;> omega⟩
  have hu := Tryz.underlying87
  obtain ⟨c0, c1, c2, c3, c4, c5, c6, f0, f1, f2, f3, f4, f5, f6⟩ := blk7 h.blk
  have lg := hp_lt h.blk
  clear h hb hl hl1
  go_enter Tryz.func38, Tryz.ntmps38
  go_upto_if 16 with (fail)
  go_cut [1] (fun v1 wx => Aside0 (Bu W0 wx v1 l1))
  case first => as_aux_lemma =>
    cases neg with
    | true =>
      go_wp2_with (with_reducible refine bu_byte rfl _ _ rfl W0 v l 45 rfl ?h1 rfl ?h2 ?h3)
      case h1 => exact HB.out
      case h2 => exact Nat.le_trans HN.out (by decide)
      case h3 =>
        intro v1 w1 hb1
        have HB1 : Aside0 (Bu W0 w1 v1 l1) := ⟨by rw [HL1.out]; exact hb1⟩
        clear hb1
        go_wp2_with (fail)
        go_meet
        case rel => exact HB1
    | false =>
      have HB1 : Aside0 (Bu W0 w v l1) := ⟨by rw [HL1.out, show l ++ sgn1 false = l from List.append_nil _]; exact HB.out⟩
      go_wp2_with (fail)
      go_meet
      case rel => exact HB1
  case rest =>
    have HB1 := hcut
    clear hcut c0 c1 c2 c3 c4 c5 c6 f0 f1 f2 f3 f4 f5 f6 lg HB
    obtain ⟨v1, hv1⟩ : ∃ v1, v1 = u1 := ⟨_, rfl⟩
    obtain ⟨w1, hw1⟩ : ∃ w1, w1 = wc := ⟨_, rfl⟩
    rw [← hv1, ← hw1] at HB1
    rw [← hv1, ← hw1]
    clear hv1 hw1
    have hs1 := HS.out w1 v1 _ HB1.out
    obtain ⟨c0, c1, c2, c3, c4, c5, c6, f0, f1, f2, f3, f4, f5, f6⟩ := blk7 hs1.blk
    have lg := hp_lt hs1.blk
    have HBD : Aside0 (Bu W0 (w1.alloc (.cells #[.slice none 0 0, .int .i64 0] 87)) v1 l1) := ⟨HB1.out.alloc _⟩
    have HKD : Aside0 (Dec0 (w1.alloc (.cells #[.slice none 0 0, .int .i64 0] 87)) w1.heap.size) := ⟨hp_new _ _ _ rfl⟩
    clear hs1
    go_wp2_with (first | (go_at_call 53; refine (rs0 _ _ _ HKD.out).mono ?_; rintro e wr ⟨rfl, hbr⟩; have HBR := Aside0.mk (HBD.out.below hbr); have HKR := Aside0.mk (hp_below HKD.out hbr); obtain ⟨d0, d1, g0, g1⟩ := blk2 HKR.out; have lgd := hp_lt HKR.out; have HF : Aside0 (Calls Tryz.prog 56 #[v1, .int .i64 0, .agg #[.slice none 0 0, .int .i64 0]] wr (BuPost W0 (l1 ++ [48]))) := Aside0.mk (by have h := fmtF0 0 W0 wr v1 l1 HBR.out (by have := HNL.out; omega) (by omega); simpa [zt, List.append_assoc] using h); clear hbr) | (go_at_call 56; refine HF.out.mono ?_; rintro e w2 ⟨v2, rfl, hb2⟩; have HB2 := Aside0.mk hb2; clear hb2) | fail)
    go_ret
    exact ⟨_, rfl, HB2.out⟩
set_option maxHeartbeats 3200000 in
set_option maxRecDepth 100000 in
theorem az_G0 (g p : Nat) (m : Int) (neg : Bool) (W0 w : World) (v : Value) (l : List Int) (h : Spc w g p m 0 neg) (hb : Bu W0 w v l) (hg : g < W0.heap.size) (hl : l.length ≤ 700000) :
    Calls Tryz.prog 38 #[.pointer (some ⟨g, 0, none⟩), v, .int .u8 71, .int .i64 0] w (BuPost W0 ((l ++ sgn1 neg) ++ [48])) := by
  have HS : Aside0 (∀ w1 v1 l1, Bu W0 w1 v1 l1 → Spc w1 g p m 0 neg) := ⟨fun w1 v1 l1 h1 => (h1.bel.block g hg).trans ((hb.bel.block g hg).symm.trans h)⟩
  have HB := Aside0.mk hb
  have HN := Aside0.mk hl
  obtain ⟨l1, hl1⟩ : ∃ l1, l1 = l ++ sgn1 neg := ⟨_, rfl⟩
  rw [← hl1]
  have HL1 := Aside0.mk hl1
  have HNL : Aside0 (l1.length ≤ 900000) := ⟨by rw [hl1, List.length_append]; cases neg <;> simp [sgn1] <;> omega⟩
  have hu := Tryz.underlying87
  obtain ⟨c0, c1, c2, c3, c4, c5, c6, f0, f1, f2, f3, f4, f5, f6⟩ := blk7 h.blk
  have lg := hp_lt h.blk
  clear h hb hl hl1
  go_enter Tryz.func38, Tryz.ntmps38
  go_upto_if 16 with (fail)
  go_cut [1] (fun v1 wx => Aside0 (Bu W0 wx v1 l1))
  case first => as_aux_lemma =>
    cases neg with
    | true =>
      go_wp2_with (with_reducible refine bu_byte rfl _ _ rfl W0 v l 45 rfl ?h1 rfl ?h2 ?h3)
      case h1 => exact HB.out
      case h2 => exact Nat.le_trans HN.out (by decide)
      case h3 =>
        intro v1 w1 hb1
        have HB1 : Aside0 (Bu W0 w1 v1 l1) := ⟨by rw [HL1.out]; exact hb1⟩
        clear hb1
        go_wp2_with (fail)
        go_meet
        case rel => exact HB1
    | false =>
      have HB1 : Aside0 (Bu W0 w v l1) := ⟨by rw [HL1.out, show l ++ sgn1 false = l from List.append_nil _]; exact HB.out⟩
      go_wp2_with (fail)
      go_meet
      case rel => exact HB1
  case rest =>
    have HB1 := hcut
    clear hcut c0 c1 c2 c3 c4 c5 c6 f0 f1 f2 f3 f4 f5 f6 lg HB
    obtain ⟨v1, hv1⟩ : ∃ v1, v1 = u1 := ⟨_, rfl⟩
    obtain ⟨w1, hw1⟩ : ∃ w1, w1 = wc := ⟨_, rfl⟩
    rw [← hv1, ← hw1] at HB1
    rw [← hv1, ← hw1]
    clear hv1 hw1
    have hs1 := HS.out w1 v1 _ HB1.out
    obtain ⟨c0, c1, c2, c3, c4, c5, c6, f0, f1, f2, f3, f4, f5, f6⟩ := blk7 hs1.blk
    have lg := hp_lt hs1.blk
    have HBD : Aside0 (Bu W0 (w1.alloc (.cells #[.slice none 0 0, .int .i64 0] 87)) v1 l1) := ⟨HB1.out.alloc _⟩
    have HKD : Aside0 (Dec0 (w1.alloc (.cells #[.slice none 0 0, .int .i64 0] 87)) w1.heap.size) := ⟨hp_new _ _ _ rfl⟩
    clear hs1
    go_wp2_with (first | (go_at_call 54; refine (round0 _ _ _ HKD.out).mono ?_; rintro e wr ⟨rfl, hbr⟩; have HBR := Aside0.mk (HBD.out.below hbr); have HKR := Aside0.mk (hp_below HKD.out hbr); obtain ⟨d0, d1, g0, g1⟩ := blk2 HKR.out; have lgd := hp_lt HKR.out; have HF : Aside0 (Calls Tryz.prog 56 #[v1, .int .i64 0, .agg #[.slice none 0 0, .int .i64 0]] wr (BuPost W0 (l1 ++ [48]))) := Aside0.mk (by have h := fmtF0 0 W0 wr v1 l1 HBR.out (by have := HNL.out; omega) (by omega); simpa [zt, List.append_assoc] using h); clear hbr) | (go_at_call 56; refine HF.out.mono ?_; rintro e w2 ⟨v2, rfl, hb2⟩; have HB2 := Aside0.mk hb2; clear hb2) | fail)
    go_ret
    exact ⟨_, rfl, HB2.out⟩
set_option maxHeartbeats 3200000 in
set_option maxRecDepth 100000 in
theorem az_Gk (g p : Nat) (k : Int) (m : Int) (neg : Bool) (W0 w : World) (v : Value) (l : List Int) (h : Spc w g p m 0 neg) (hb : Bu W0 w v l) (hg : g < W0.heap.size) (hl : l.length ≤ 700000) (hk : 0 < k ∧ k ≤ 1000000) :
    Calls Tryz.prog 38 #[.pointer (some ⟨g, 0, none⟩), v, .int .u8 71, .int .i64 k] w (BuPost W0 ((l ++ sgn1 neg) ++ [48])) := by
  have HS : Aside0 (∀ w1 v1 l1, Bu W0 w1 v1 l1 → Spc w1 g p m 0 neg) := ⟨fun w1 v1 l1 h1 => (h1.bel.block g hg).trans ((hb.bel.block g hg).symm.trans h)⟩
  have HB := Aside0.mk hb
  have HN := Aside0.mk hl
  obtain ⟨l1, hl1⟩ : ∃ l1, l1 = l ++ sgn1 neg := ⟨_, rfl⟩
  rw [← hl1]
  have HL1 := Aside0.mk hl1
  have HNL : Aside0 (l1.length ≤ 900000) := ⟨by rw [hl1, List.length_append]; cases neg <;> simp [sgn1] <;> omega⟩
  have hu := Tryz.underlying87
  have hkn : ¬ k < 0 := by omega
  have hkb : (k == 0) = false := by rw [beq_eq_false_iff_ne]; omega
  have hkp : 0 < k := hk.1
  obtain ⟨c0, c1, c2, c3, c4, c5, c6, f0, f1, f2, f3, f4, f5, f6⟩ := blk7 h.blk
  have lg := hp_lt h.blk
  clear h hb hl hl1
  go_enter Tryz.func38, Tryz.ntmps38
  go_upto_if 16 with (fail)
  go_cut [1] (fun v1 wx => Aside0 (Bu W0 wx v1 l1))
  case first => as_aux_lemma =>
    cases neg with
    | true =>
      go_wp2_with (with_reducible refine bu_byte rfl _ _ rfl W0 v l 45 rfl ?h1 rfl ?h2 ?h3)
      case h1 => exact HB.out
      case h2 => exact Nat.le_trans HN.out (by decide)
      case h3 =>
        intro v1 w1 hb1
        have HB1 : Aside0 (Bu W0 w1 v1 l1) := ⟨by rw [HL1.out]; exact hb1⟩
        clear hb1
        go_wp2_with (fail)
        go_meet
        case rel => exact HB1
    | false =>
      have HB1 : Aside0 (Bu W0 w v l1) := ⟨by rw [HL1.out, show l ++ sgn1 false = l from List.append_nil _]; exact HB.out⟩
      go_wp2_with (fail)
      go_meet
      case rel => exact HB1
  case rest =>
    have HB1 := hcut
    clear hcut c0 c1 c2 c3 c4 c5 c6 f0 f1 f2 f3 f4 f5 f6 lg HB
    obtain ⟨v1, hv1⟩ : ∃ v1, v1 = u1 := ⟨_, rfl⟩
    obtain ⟨w1, hw1⟩ : ∃ w1, w1 = wc := ⟨_, rfl⟩
    rw [← hv1, ← hw1] at HB1
    rw [← hv1, ← hw1]
    clear hv1 hw1
    have hs1 := HS.out w1 v1 _ HB1.out
    obtain ⟨c0, c1, c2, c3, c4, c5, c6, f0, f1, f2, f3, f4, f5, f6⟩ := blk7 hs1.blk
    have lg := hp_lt hs1.blk
    have HBD : Aside0 (Bu W0 (w1.alloc (.cells #[.slice none 0 0, .int .i64 0] 87)) v1 l1) := ⟨HB1.out.alloc _⟩
    have HKD : Aside0 (Dec0 (w1.alloc (.cells #[.slice none 0 0, .int .i64 0] 87)) w1.heap.size) := ⟨hp_new _ _ _ rfl⟩
    clear hs1
    go_wp2_with (first | (go_at_call 54; refine (round0 _ _ _ HKD.out).mono ?_; rintro e wr ⟨rfl, hbr⟩; have HBR := Aside0.mk (HBD.out.below hbr); have HKR := Aside0.mk (hp_below HKD.out hbr); obtain ⟨d0, d1, g0, g1⟩ := blk2 HKR.out; have lgd := hp_lt HKR.out; have HF : Aside0 (Calls Tryz.prog 56 #[v1, .int .i64 0, .agg #[.slice none 0 0, .int .i64 0]] wr (BuPost W0 (l1 ++ [48]))) := Aside0.mk (by have h := fmtF0 0 W0 wr v1 l1 HBR.out (by have := HNL.out; omega) (by omega); simpa [zt, List.append_assoc] using h); clear hbr) | (go_at_call 56; refine HF.out.mono ?_; rintro e w2 ⟨v2, rfl, hb2⟩; have HB2 := Aside0.mk hb2; clear hb2) | fail)
    go_ret
    exact ⟨_, rfl, HB2.out⟩
set_option maxHeartbeats 3200000 in
set_option maxRecDepth 100000 in
theorem az_ek (g p : Nat) (k : Nat) (m : Int) (neg : Bool) (W0 w : World) (v : Value) (l : List Int) (h : Spc w g p m 0 neg) (hb : Bu W0 w v l) (hg : g < W0.heap.size) (hl : l.length ≤ 700000) (hk : k ≤ 1000000) :
    Calls Tryz.prog 38 #[.pointer (some ⟨g, 0, none⟩), v, .int .u8 101, .int .i64 (k : Int)] w (BuPost W0 ((l ++ sgn1 neg) ++ ([48] ++ zt k ++ [101, 43, 48, 48]))) := by
  have HS : Aside0 (∀ w1 v1 l1, Bu W0 w1 v1 l1 → Spc w1 g p m 0 neg) := ⟨fun w1 v1 l1 h1 => (h1.bel.block g hg).trans ((hb.bel.block g hg).symm.trans h)⟩
  have HB := Aside0.mk hb
  have HN := Aside0.mk hl
  obtain ⟨l1, hl1⟩ : ∃ l1, l1 = l ++ sgn1 neg := ⟨_, rfl⟩
  rw [← hl1]
  have HL1 := Aside0.mk hl1
  have HNL : Aside0 (l1.length ≤ 900000) := ⟨by rw [hl1, List.length_append]; cases neg <;> simp [sgn1] <;> omega⟩
  have hu := Tryz.underlying87
  have hkw : IntKind.i64.wrap (1 + (k : Int)) = 1 + (k : Int) := IntWalk.i64_in _ (by omega)
  have hkw2 : IntKind.i64.wrap (k : Int) = (k : Int) := IntWalk.i64_in _ (by omega)
  have hkn : ¬ (k : Int) < 0 := by omega
  obtain ⟨c0, c1, c2, c3, c4, c5, c6, f0, f1, f2, f3, f4, f5, f6⟩ := blk7 h.blk
  have lg := hp_lt h.blk
  clear h hb hl hl1
  go_enter Tryz.func38, Tryz.ntmps38
  go_upto_if 16 with (fail)
  go_cut [1] (fun v1 wx => Aside0 (Bu W0 wx v1 l1))
  case first => as_aux_lemma =>
    cases neg with
    | true =>
      go_wp2_with (with_reducible refine bu_byte rfl _ _ rfl W0 v l 45 rfl ?h1 rfl ?h2 ?h3)
      case h1 => exact HB.out
      case h2 => exact Nat.le_trans HN.out (by decide)
      case h3 =>
        intro v1 w1 hb1
        have HB1 : Aside0 (Bu W0 w1 v1 l1) := ⟨by rw [HL1.out]; exact hb1⟩
        clear hb1
        go_wp2_with (fail)
        go_meet
        case rel => exact HB1
    | false =>
      have HB1 : Aside0 (Bu W0 w v l1) := ⟨by rw [HL1.out, show l ++ sgn1 false = l from List.append_nil _]; exact HB.out⟩
      go_wp2_with (fail)
      go_meet
      case rel => exact HB1
  case rest =>
    have HB1 := hcut
    clear hcut c0 c1 c2 c3 c4 c5 c6 f0 f1 f2 f3 f4 f5 f6 lg HB
    obtain ⟨v1, hv1⟩ : ∃ v1, v1 = u1 := ⟨_, rfl⟩
    obtain ⟨w1, hw1⟩ : ∃ w1, w1 = wc := ⟨_, rfl⟩
    rw [← hv1, ← hw1] at HB1
    rw [← hv1, ← hw1]
    clear hv1 hw1
    have hs1 := HS.out w1 v1 _ HB1.out
    obtain ⟨c0, c1, c2, c3, c4, c5, c6, f0, f1, f2, f3, f4, f5, f6⟩ := blk7 hs1.blk
    have lg := hp_lt hs1.blk
    have HBD : Aside0 (Bu W0 (w1.alloc (.cells #[.slice none 0 0, .int .i64 0] 87)) v1 l1) := ⟨HB1.out.alloc _⟩
    have HKD : Aside0 (Dec0 (w1.alloc (.cells #[.slice none 0 0, .int .i64 0] 87)) w1.heap.size) := ⟨hp_new _ _ _ rfl⟩
    clear hs1
    go_wp2_with (first | (go_at_call 54; refine (round0 _ _ _ HKD.out).mono ?_; rintro e wr ⟨rfl, hbr⟩; have HBR := Aside0.mk (HBD.out.below hbr); have HKR := Aside0.mk (hp_below HKD.out hbr); obtain ⟨d0, d1, g0, g1⟩ := blk2 HKR.out; have lgd := hp_lt HKR.out; have HF : Aside0 (Calls Tryz.prog 55 #[v1, .int .u8 101, .int .i64 (k : Int), .agg #[.slice none 0 0, .int .i64 0]] wr (BuPost W0 (l1 ++ ([48] ++ zt k ++ [101, 43, 48, 48])))) := Aside0.mk (by have h := fmtE0 k 101 W0 wr v1 l1 HBR.out (by have := HNL.out; omega) hk; simpa [zt, List.append_assoc] using h); clear hbr) | (go_at_call 55; refine HF.out.mono ?_; rintro e w2 ⟨v2, rfl, hb2⟩; have HB2 := Aside0.mk hb2; clear hb2) | fail)
    go_ret
    exact ⟨_, rfl, HB2.out⟩
set_option maxHeartbeats 3200000 in
set_option maxRecDepth 100000 in
theorem az_em (g p : Nat) (m : Int) (neg : Bool) (W0 w : World) (v : Value) (l : List Int) (h : Spc w g p m 0 neg) (hb : Bu W0 w v l) (hg : g < W0.heap.size) (hl : l.length ≤ 700000) :
    Calls Tryz.prog 38 #[.pointer (some ⟨g, 0, none⟩), v, .int .u8 101, .int .i64 (-1)] w (BuPost W0 ((l ++ sgn1 neg) ++ ([48] ++ [101, 43, 48, 48]))) := by
  have HS : Aside0 (∀ w1 v1 l1, Bu W0 w1 v1 l1 → Spc w1 g p m 0 neg) := ⟨fun w1 v1 l1 h1 => (h1.bel.block g hg).trans ((hb.bel.block g hg).symm.trans h)⟩
  have HB := Aside0.mk hb
  have HN := Aside0.mk hl
  obtain ⟨l1, hl1⟩ : ∃ l1, l1 = l ++ sgn1 neg := ⟨_, rfl⟩
  rw [← hl1]
  have HL1 := Aside0.mk hl1
  have HNL : Aside0 (l1.length ≤ 900000) := ⟨by rw [hl1, List.length_append]; cases neg <;> simp [sgn1] <;> omega⟩
  have hu := Tryz.underlying87
  obtain ⟨c0, c1, c2, c3, c4, c5, c6, f0, f1, f2, f3, f4, f5, f6⟩ := blk7 h.blk
  have lg := hp_lt h.blk
  clear h hb hl hl1
  go_enter Tryz.func38, Tryz.ntmps38
  go_upto_if 16 with (fail)
  go_cut [1] (fun v1 wx => Aside0 (Bu W0 wx v1 l1))
  case first => as_aux_lemma =>
    cases neg with
    | true =>
      go_wp2_with (with_reducible refine bu_byte rfl _ _ rfl W0 v l 45 rfl ?h1 rfl ?h2 ?h3)
      case h1 => exact HB.out
      case h2 => exact Nat.le_trans HN.out (by decide)
      case h3 =>
        intro v1 w1 hb1
        have HB1 : Aside0 (Bu W0 w1 v1 l1) := ⟨by rw [HL1.out]; exact hb1⟩
        clear hb1
        go_wp2_with (fail)
        go_meet
        case rel => exact HB1
    | false =>
      have HB1 : Aside0 (Bu W0 w v l1) := ⟨by rw [HL1.out, show l ++ sgn1 false = l from List.append_nil _]; exact HB.out⟩
      go_wp2_with (fail)
      go_meet
      case rel => exact HB1
  case rest =>
    have HB1 := hcut
    clear hcut c0 c1 c2 c3 c4 c5 c6 f0 f1 f2 f3 f4 f5 f6 lg HB
    obtain ⟨v1, hv1⟩ : ∃ v1, v1 = u1 := ⟨_, rfl⟩
    obtain ⟨w1, hw1⟩ : ∃ w1, w1 = wc := ⟨_, rfl⟩
    rw [← hv1, ← hw1] at HB1
    rw [← hv1, ← hw1]
    clear hv1 hw1
    have hs1 := HS.out w1 v1 _ HB1.out
    obtain ⟨c0, c1, c2, c3, c4, c5, c6, f0, f1, f2, f3, f4, f5, f6⟩ := blk7 hs1.blk
    have lg := hp_lt hs1.blk
    have HBD : Aside0 (Bu W0 (w1.alloc (.cells #[.slice none 0 0, .int .i64 0] 87)) v1 l1) := ⟨HB1.out.alloc _⟩
    have HKD : Aside0 (Dec0 (w1.alloc (.cells #[.slice none 0 0, .int .i64 0] 87)) w1.heap.size) := ⟨hp_new _ _ _ rfl⟩
    clear hs1
    go_wp2_with (first | (go_at_call 53; refine (rs0 _ _ _ HKD.out).mono ?_; rintro e wr ⟨rfl, hbr⟩; have HBR := Aside0.mk (HBD.out.below hbr); have HKR := Aside0.mk (hp_below HKD.out hbr); obtain ⟨d0, d1, g0, g1⟩ := blk2 HKR.out; have lgd := hp_lt HKR.out; have HF : Aside0 (Calls Tryz.prog 55 #[v1, .int .u8 101, .int .i64 (-1), .agg #[.slice none 0 0, .int .i64 0]] wr (BuPost W0 (l1 ++ ([48] ++ [101, 43, 48, 48])))) := Aside0.mk (by have h := fmtEm 101 W0 wr v1 l1 HBR.out (by have := HNL.out; omega); simpa [zt, List.append_assoc] using h); clear hbr) | (go_at_call 55; refine HF.out.mono ?_; rintro e w2 ⟨v2, rfl, hb2⟩; have HB2 := Aside0.mk hb2; clear hb2) | fail)
    go_ret
    exact ⟨_, rfl, HB2.out⟩
set_option maxHeartbeats 3200000 in
set_option maxRecDepth 100000 in
theorem az_Ek (g p : Nat) (k : Nat) (m : Int) (neg : Bool) (W0 w : World) (v : Value) (l : List Int) (h : Spc w g p m 0 neg) (hb : Bu W0 w v l) (hg : g < W0.heap.size) (hl : l.length ≤ 700000) (hk : k ≤ 1000000) :
    Calls Tryz.prog 38 #[.pointer (some ⟨g, 0, none⟩), v, .int .u8 69, .int .i64 (k : Int)] w (BuPost W0 ((l ++ sgn1 neg) ++ ([48] ++ zt k ++ [69, 43, 48, 48]))) := by
  have HS : Aside0 (∀ w1 v1 l1, Bu W0 w1 v1 l1 → Spc w1 g p m 0 neg) := ⟨fun w1 v1 l1 h1 => (h1.bel.block g hg).trans ((hb.bel.block g hg).symm.trans h)⟩
  have HB := Aside0.mk hb
  have HN := Aside0.mk hl
  obtain ⟨l1, hl1⟩ : ∃ l1, l1 = l ++ sgn1 neg := ⟨_, rfl⟩
  rw [← hl1]
  have HL1 := Aside0.mk hl1
  have HNL : Aside0 (l1.length ≤ 900000) := ⟨by rw [hl1, List.length_append]; cases neg <;> simp [sgn1] <;> omega⟩
  have hu := Tryz.underlying87
  have hkw : IntKind.i64.wrap (1 + (k : Int)) = 1 + (k : Int) := IntWalk.i64_in _ (by omega)
  have hkw2 : IntKind.i64.wrap (k : Int) = (k : Int) := IntWalk.i64_in _ (by omega)
  have hkn : ¬ (k : Int) < 0 := by omega
  obtain ⟨c0, c1, c2, c3, c4, c5, c6, f0, f1, f2, f3, f4, f5, f6⟩ := blk7 h.blk
  have lg := hp_lt h.blk
  clear h hb hl hl1
  go_enter Tryz.func38, Tryz.ntmps38
  go_upto_if 16 with (fail)
  go_cut [1] (fun v1 wx => Aside0 (Bu W0 wx v1 l1))
  case first => as_aux_lemma =>
    cases neg with
    | true =>
      go_wp2_with (with_reducible refine bu_byte rfl _ _ rfl W0 v l 45 rfl ?h1 rfl ?h2 ?h3)
      case h1 => exact HB.out
      case h2 => exact Nat.le_trans HN.out (by decide)
      case h3 =>
        intro v1 w1 hb1
        have HB1 : Aside0 (Bu W0 w1 v1 l1) := ⟨by rw [HL1.out]; exact hb1⟩
        clear hb1
        go_wp2_with (fail)
        go_meet
        case rel => exact HB1
    | false =>
      have HB1 : Aside0 (Bu W0 w v l1) := ⟨by rw [HL1.out, show l ++ sgn1 false = l from List.append_nil _]; exact HB.out⟩
      go_wp2_with (fail)
      go_meet
      case rel => exact HB1
  case rest =>
    have HB1 := hcut
    clear hcut c0 c1 c2 c3 c4 c5 c6 f0 f1 f2 f3 f4 f5 f6 lg HB
    obtain ⟨v1, hv1⟩ : ∃ v1, v1 = u1 := ⟨_, rfl⟩
    obtain ⟨w1, hw1⟩ : ∃ w1, w1 = wc := ⟨_, rfl⟩
    rw [← hv1, ← hw1] at HB1
    rw [← hv1, ← hw1]
    clear hv1 hw1
    have hs1 := HS.out w1 v1 _ HB1.out
    obtain ⟨c0, c1, c2, c3, c4, c5, c6, f0, f1, f2, f3, f4, f5, f6⟩ := blk7 hs1.blk
    have lg := hp_lt hs1.blk
    have HBD : Aside0 (Bu W0 (w1.alloc (.cells #[.slice none 0 0, .int .i64 0] 87)) v1 l1) := ⟨HB1.out.alloc _⟩
    have HKD : Aside0 (Dec0 (w1.alloc (.cells #[.slice none 0 0, .int .i64 0] 87)) w1.heap.size) := ⟨hp_new _ _ _ rfl⟩
    clear hs1
    go_wp2_with (first | (go_at_call 54; refine (round0 _ _ _ HKD.out).mono ?_; rintro e wr ⟨rfl, hbr⟩; have HBR := Aside0.mk (HBD.out.below hbr); have HKR := Aside0.mk (hp_below HKD.out hbr); obtain ⟨d0, d1, g0, g1⟩ := blk2 HKR.out; have lgd := hp_lt HKR.out; have HF : Aside0 (Calls Tryz.prog 55 #[v1, .int .u8 69, .int .i64 (k : Int), .agg #[.slice none 0 0, .int .i64 0]] wr (BuPost W0 (l1 ++ ([48] ++ zt k ++ [69, 43, 48, 48])))) := Aside0.mk (by have h := fmtE0 k 69 W0 wr v1 l1 HBR.out (by have := HNL.out; omega) hk; simpa [zt, List.append_assoc] using h); clear hbr) | (go_at_call 55; refine HF.out.mono ?_; rintro e w2 ⟨v2, rfl, hb2⟩; have HB2 := Aside0.mk hb2; clear hb2) | fail)
    go_ret
    exact ⟨_, rfl, HB2.out⟩
set_option maxHeartbeats 3200000 in
set_option maxRecDepth 100000 in
theorem az_Em (g p : Nat) (m : Int) (neg : Bool) (W0 w : World) (v : Value) (l : List Int) (h : Spc w g p m 0 neg) (hb : Bu W0 w v l) (hg : g < W0.heap.size) (hl : l.length ≤ 700000) :
    Calls Tryz.prog 38 #[.pointer (some ⟨g, 0, none⟩), v, .int .u8 69, .int .i64 (-1)] w (BuPost W0 ((l ++ sgn1 neg) ++ ([48] ++ [69, 43, 48, 48]))) := by
  have HS : Aside0 (∀ w1 v1 l1, Bu W0 w1 v1 l1 → Spc w1 g p m 0 neg) := ⟨fun w1 v1 l1 h1 => (h1.bel.block g hg).trans ((hb.bel.block g hg).symm.trans h)⟩
  have HB := Aside0.mk hb
  have HN := Aside0.mk hl
  obtain ⟨l1, hl1⟩ : ∃ l1, l1 = l ++ sgn1 neg := ⟨_, rfl⟩
  rw [← hl1]
  have HL1 := Aside0.mk hl1
  have HNL : Aside0 (l1.length ≤ 900000) := ⟨by rw [hl1, List.length_append]; cases neg <;> simp [sgn1] <;> omega⟩
  have hu := Tryz.underlying87
  obtain ⟨c0, c1, c2, c3, c4, c5, c6, f0, f1, f2, f3, f4, f5, f6⟩ := blk7 h.blk
  have lg := hp_lt h.blk
  clear h hb hl hl1
  go_enter Tryz.func38, Tryz.ntmps38
  go_upto_if 16 with (fail)
  go_cut [1] (fun v1 wx => Aside0 (Bu W0 wx v1 l1))
  case first => as_aux_lemma =>
    cases neg with
    | true =>
      go_wp2_with (with_reducible refine bu_byte rfl _ _ rfl W0 v l 45 rfl ?h1 rfl ?h2 ?h3)
      case h1 => exact HB.out
      case h2 => exact Nat.le_trans HN.out (by decide)
      case h3 =>
        intro v1 w1 hb1
        have HB1 : Aside0 (Bu W0 w1 v1 l1) := ⟨by rw [HL1.out]; exact hb1⟩
        clear hb1
        go_wp2_with (fail)
        go_meet
        case rel => exact HB1
    | false =>
      have HB1 : Aside0 (Bu W0 w v l1) := ⟨by rw [HL1.out, show l ++ sgn1 false = l from List.append_nil _]; exact HB.out⟩
      go_wp2_with (fail)
      go_meet
      case rel => exact HB1
  case rest =>
    have HB1 := hcut
    clear hcut c0 c1 c2 c3 c4 c5 c6 f0 f1 f2 f3 f4 f5 f6 lg HB
    obtain ⟨v1, hv1⟩ : ∃ v1, v1 = u1 := ⟨_, rfl⟩
    obtain ⟨w1, hw1⟩ : ∃ w1, w1 = wc := ⟨_, rfl⟩
    rw [← hv1, ← hw1] at HB1
    rw [← hv1, ← hw1]
    clear hv1 hw1
    have hs1 := HS.out w1 v1 _ HB1.out
    obtain ⟨c0, c1, c2, c3, c4, c5, c6, f0, f1, f2, f3, f4, f5, f6⟩ := blk7 hs1.blk
    have lg := hp_lt hs1.blk
    have HBD : Aside0 (Bu W0 (w1.alloc (.cells #[.slice none 0 0, .int .i64 0] 87)) v1 l1) := ⟨HB1.out.alloc _⟩
    have HKD : Aside0 (Dec0 (w1.alloc (.cells #[.slice none 0 0, .int .i64 0] 87)) w1.heap.size) := ⟨hp_new _ _ _ rfl⟩
    clear hs1
    go_wp2_with (first | (go_at_call 53; refine (rs0 _ _ _ HKD.out).mono ?_; rintro e wr ⟨rfl, hbr⟩; have HBR := Aside0.mk (HBD.out.below hbr); have HKR := Aside0.mk (hp_below HKD.out hbr); obtain ⟨d0, d1, g0, g1⟩ := blk2 HKR.out; have lgd := hp_lt HKR.out; have HF : Aside0 (Calls Tryz.prog 55 #[v1, .int .u8 69, .int .i64 (-1), .agg #[.slice none 0 0, .int .i64 0]] wr (BuPost W0 (l1 ++ ([48] ++ [69, 43, 48, 48])))) := Aside0.mk (by have h := fmtEm 69 W0 wr v1 l1 HBR.out (by have := HNL.out; omega); simpa [zt, List.append_assoc] using h); clear hbr) | (go_at_call 55; refine HF.out.mono ?_; rintro e w2 ⟨v2, rfl, hb2⟩; have HB2 := Aside0.mk hb2; clear hb2) | fail)
    go_ret
    exact ⟨_, rfl, HB2.out⟩
set_option maxHeartbeats 3200000 in
set_option maxRecDepth 100000 in
theorem az_fk (g p : Nat) (k : Nat) (m : Int) (neg : Bool) (W0 w : World) (v : Value) (l : List Int) (h : Spc w g p m 0 neg) (hb : Bu W0 w v l) (hg : g < W0.heap.size) (hl : l.length ≤ 700000) (hk : k ≤ 1000000) :
    Calls Tryz.prog 38 #[.pointer (some ⟨g, 0, none⟩), v, .int .u8 102, .int .i64 (k : Int)] w (BuPost W0 ((l ++ sgn1 neg) ++ ([48] ++ zt k))) := by
  have HS : Aside0 (∀ w1 v1 l1, Bu W0 w1 v1 l1 → Spc w1 g p m 0 neg) := ⟨fun w1 v1 l1 h1 => (h1.bel.block g hg).trans ((hb.bel.block g hg).symm.trans h)⟩
  have HB := Aside0.mk hb
  have HN := Aside0.mk hl
  obtain ⟨l1, hl1⟩ : ∃ l1, l1 = l ++ sgn1 neg := ⟨_, rfl⟩
  rw [← hl1]
  have HL1 := Aside0.mk hl1
  have HNL : Aside0 (l1.length ≤ 900000) := ⟨by rw [hl1, List.length_append]; cases neg <;> simp [sgn1] <;> omega⟩
  have hu := Tryz.underlying87
  have hkw : IntKind.i64.wrap (1 + (k : Int)) = 1 + (k : Int) := IntWalk.i64_in _ (by omega)
  have hkw2 : IntKind.i64.wrap (k : Int) = (k : Int) := IntWalk.i64_in _ (by omega)
  have hkn : ¬ (k : Int) < 0 := by omega
  obtain ⟨c0, c1, c2, c3, c4, c5, c6, f0, f1, f2, f3, f4, f5, f6⟩ := blk7 h.blk
  have lg := hp_lt h.blk
  clear h hb hl hl1
  go_enter Tryz.func38, Tryz.ntmps38
  go_upto_if 16 with (fail)
  go_cut [1] (fun v1 wx => Aside0 (Bu W0 wx v1 l1))
  case first => as_aux_lemma =>
    cases neg with
    | true =>
      go_wp2_with (with_reducible refine bu_byte rfl _ _ rfl W0 v l 45 rfl ?h1 rfl ?h2 ?h3)
      case h1 => exact HB.out
      case h2 => exact Nat.le_trans HN.out (by decide)
      case h3 =>
        intro v1 w1 hb1
        have HB1 : Aside0 (Bu W0 w1 v1 l1) := ⟨by rw [HL1.out]; exact hb1⟩
        clear hb1
        go_wp2_with (fail)
        go_meet
        case rel => exact HB1
    | false =>
      have HB1 : Aside0 (Bu W0 w v l1) := ⟨by rw [HL1.out, show l ++ sgn1 false = l from List.append_nil _]; exact HB.out⟩
      go_wp2_with (fail)
      go_meet
      case rel => exact HB1
  case rest =>
    have HB1 := hcut
    clear hcut c0 c1 c2 c3 c4 c5 c6 f0 f1 f2 f3 f4 f5 f6 lg HB
    obtain ⟨v1, hv1⟩ : ∃ v1, v1 = u1 := ⟨_, rfl⟩
    obtain ⟨w1, hw1⟩ : ∃ w1, w1 = wc := ⟨_, rfl⟩
    rw [← hv1, ← hw1] at HB1
    rw [← hv1, ← hw1]
    clear hv1 hw1
    have hs1 := HS.out w1 v1 _ HB1.out
    obtain ⟨c0, c1, c2, c3, c4, c5, c6, f0, f1, f2, f3, f4, f5, f6⟩ := blk7 hs1.blk
    have lg := hp_lt hs1.blk
    have HBD : Aside0 (Bu W0 (w1.alloc (.cells #[.slice none 0 0, .int .i64 0] 87)) v1 l1) := ⟨HB1.out.alloc _⟩
    have HKD : Aside0 (Dec0 (w1.alloc (.cells #[.slice none 0 0, .int .i64 0] 87)) w1.heap.size) := ⟨hp_new _ _ _ rfl⟩
    clear hs1
    go_wp2_with (first | (go_at_call 54; refine (round0 _ _ _ HKD.out).mono ?_; rintro e wr ⟨rfl, hbr⟩; have HBR := Aside0.mk (HBD.out.below hbr); have HKR := Aside0.mk (hp_below HKD.out hbr); obtain ⟨d0, d1, g0, g1⟩ := blk2 HKR.out; have lgd := hp_lt HKR.out; have HF : Aside0 (Calls Tryz.prog 56 #[v1, .int .i64 (k : Int), .agg #[.slice none 0 0, .int .i64 0]] wr (BuPost W0 (l1 ++ ([48] ++ zt k)))) := Aside0.mk (by have h := fmtF0 k W0 wr v1 l1 HBR.out (by have := HNL.out; omega) hk; simpa [zt, List.append_assoc] using h); clear hbr) | (go_at_call 56; refine HF.out.mono ?_; rintro e w2 ⟨v2, rfl, hb2⟩; have HB2 := Aside0.mk hb2; clear hb2) | fail)
    go_ret
    exact ⟨_, rfl, HB2.out⟩
set_option maxHeartbeats 3200000 in
set_option maxRecDepth 100000 in
theorem az_fm (g p : Nat) (m : Int) (neg : Bool) (W0 w : World) (v : Value) (l : List Int) (h : Spc w g p m 0 neg) (hb : Bu W0 w v l) (hg : g < W0.heap.size) (hl : l.length ≤ 700000) :
    Calls Tryz.prog 38 #[.pointer (some ⟨g, 0, none⟩), v, .int .u8 102, .int .i64 (-1)] w (BuPost W0 ((l ++ sgn1 neg) ++ [48])) := by
  have HS : Aside0 (∀ w1 v1 l1, Bu W0 w1 v1 l1 → Spc w1 g p m 0 neg) := ⟨fun w1 v1 l1 h1 => (h1.bel.block g hg).trans ((hb.bel.block g hg).symm.trans h)⟩
  have HB := Aside0.mk hb
  have HN := Aside0.mk hl
  obtain ⟨l1, hl1⟩ : ∃ l1, l1 = l ++ sgn1 neg := ⟨_, rfl⟩
  rw [← hl1]
  have HL1 := Aside0.mk hl1
  have HNL : Aside0 (l1.length ≤ 900000) := ⟨by rw [hl1, List.length_append]; cases neg <;> simp [sgn1] <;> omega⟩
  have hu := Tryz.underlying87
  obtain ⟨c0, c1, c2, c3, c4, c5, c6, f0, f1, f2, f3, f4, f5, f6⟩ := blk7 h.blk
  have lg := hp_lt h.blk
  clear h hb hl hl1
  go_enter Tryz.func38, Tryz.ntmps38
  go_upto_if 16 with (fail)
  go_cut [1] (fun v1 wx => Aside0 (Bu W0 wx v1 l1))
  case first => as_aux_lemma =>
    cases neg with
    | true =>
      go_wp2_with (with_reducible refine bu_byte rfl _ _ rfl W0 v l 45 rfl ?h1 rfl ?h2 ?h3)
      case h1 => exact HB.out
      case h2 => exact Nat.le_trans HN.out (by decide)
      case h3 =>
        intro v1 w1 hb1
        have HB1 : Aside0 (Bu W0 w1 v1 l1) := ⟨by rw [HL1.out]; exact hb1⟩
        clear hb1
        go_wp2_with (fail)
        go_meet
        case rel => exact HB1
    | false =>
      have HB1 : Aside0 (Bu W0 w v l1) := ⟨by rw [HL1.out, show l ++ sgn1 false = l from List.append_nil _]; exact HB.out⟩
      go_wp2_with (fail)
      go_meet
      case rel => exact HB1
  case rest =>
    have HB1 := hcut
    clear hcut c0 c1 c2 c3 c4 c5 c6 f0 f1 f2 f3 f4 f5 f6 lg HB
    obtain ⟨v1, hv1⟩ : ∃ v1, v1 = u1 := ⟨_, rfl⟩
    obtain ⟨w1, hw1⟩ : ∃ w1, w1 = wc := ⟨_, rfl⟩
    rw [← hv1, ← hw1] at HB1
    rw [← hv1, ← hw1]
    clear hv1 hw1
    have hs1 := HS.out w1 v1 _ HB1.out
    obtain ⟨c0, c1, c2, c3, c4, c5, c6, f0, f1, f2, f3, f4, f5, f6⟩ := blk7 hs1.blk
    have lg := hp_lt hs1.blk
    have HBD : Aside0 (Bu W0 (w1.alloc (.cells #[.slice none 0 0, .int .i64 0] 87)) v1 l1) := ⟨HB1.out.alloc _⟩
    have HKD : Aside0 (Dec0 (w1.alloc (.cells #[.slice none 0 0, .int .i64 0] 87)) w1.heap.size) := ⟨hp_new _ _ _ rfl⟩
    clear hs1
    go_wp2_with (first | (go_at_call 53; refine (rs0 _ _ _ HKD.out).mono ?_; rintro e wr ⟨rfl, hbr⟩; have HBR := Aside0.mk (HBD.out.below hbr); have HKR := Aside0.mk (hp_below HKD.out hbr); obtain ⟨d0, d1, g0, g1⟩ := blk2 HKR.out; have lgd := hp_lt HKR.out; have HF : Aside0 (Calls Tryz.prog 56 #[v1, .int .i64 0, .agg #[.slice none 0 0, .int .i64 0]] wr (BuPost W0 (l1 ++ [48]))) := Aside0.mk (by have h := fmtF0 0 W0 wr v1 l1 HBR.out (by have := HNL.out; omega) (by omega); simpa [zt, List.append_assoc] using h); clear hbr) | (go_at_call 56; refine HF.out.mono ?_; rintro e w2 ⟨v2, rfl, hb2⟩; have HB2 := Aside0.mk hb2; clear hb2) | fail)
    go_ret
    exact ⟨_, rfl, HB2.out⟩
set_option maxHeartbeats 3200000 in
set_option maxRecDepth 100000 in
theorem az_b (g p : Nat) (k : Int) (m : Int) (neg : Bool) (W0 w : World) (v : Value) (l : List Int) (h : Spc w g p m 0 neg) (hb : Bu W0 w v l) (hg : g < W0.heap.size) (hl : l.length ≤ 700000) :
    Calls Tryz.prog 38 #[.pointer (some ⟨g, 0, none⟩), v, .int .u8 98, .int .i64 k] w (BuPost W0 ((l ++ sgn1 neg) ++ [48])) := by
  have HS : Aside0 (∀ w1 v1 l1, Bu W0 w1 v1 l1 → Spc w1 g p m 0 neg) := ⟨fun w1 v1 l1 h1 => (h1.bel.block g hg).trans ((hb.bel.block g hg).symm.trans h)⟩
  have HB := Aside0.mk hb
  have HN := Aside0.mk hl
  obtain ⟨l1, hl1⟩ : ∃ l1, l1 = l ++ sgn1 neg := ⟨_, rfl⟩
  rw [← hl1]
  have HL1 := Aside0.mk hl1
  have HNL : Aside0 (l1.length ≤ 900000) := ⟨by rw [hl1, List.length_append]; cases neg <;> simp [sgn1] <;> omega⟩
  have hu := Tryz.underlying87
  obtain ⟨c0, c1, c2, c3, c4, c5, c6, f0, f1, f2, f3, f4, f5, f6⟩ := blk7 h.blk
  have lg := hp_lt h.blk
  clear h hb hl hl1
  go_enter Tryz.func38, Tryz.ntmps38
  go_upto_if 16 with (fail)
  go_cut [1] (fun v1 wx => Aside0 (Bu W0 wx v1 l1))
  case first => as_aux_lemma =>
    cases neg with
    | true =>
      go_wp2_with (with_reducible refine bu_byte rfl _ _ rfl W0 v l 45 rfl ?h1 rfl ?h2 ?h3)
      case h1 => exact HB.out
      case h2 => exact Nat.le_trans HN.out (by decide)
      case h3 =>
        intro v1 w1 hb1
        have HB1 : Aside0 (Bu W0 w1 v1 l1) := ⟨by rw [HL1.out]; exact hb1⟩
        clear hb1
        go_wp2_with (fail)
        go_meet
        case rel => exact HB1
    | false =>
      have HB1 : Aside0 (Bu W0 w v l1) := ⟨by rw [HL1.out, show l ++ sgn1 false = l from List.append_nil _]; exact HB.out⟩
      go_wp2_with (fail)
      go_meet
      case rel => exact HB1
  case rest =>
    have HB1 := hcut
    clear hcut c0 c1 c2 c3 c4 c5 c6 f0 f1 f2 f3 f4 f5 f6 lg HB
    obtain ⟨v1, hv1⟩ : ∃ v1, v1 = u1 := ⟨_, rfl⟩
    obtain ⟨w1, hw1⟩ : ∃ w1, w1 = wc := ⟨_, rfl⟩
    rw [← hv1, ← hw1] at HB1
    rw [← hv1, ← hw1]
    clear hv1 hw1
    have hs1 := HS.out w1 v1 _ HB1.out
    obtain ⟨c0, c1, c2, c3, c4, c5, c6, f0, f1, f2, f3, f4, f5, f6⟩ := blk7 hs1.blk
    have lg := hp_lt hs1.blk
    have HF : Aside0 (Calls Tryz.prog 48 #[.pointer (some ⟨g, 0, none⟩), v1] w1 (BuPost W0 (l1 ++ [48]))) := Aside0.mk (by have h := fmtB0 g p m neg W0 w1 v1 l1 hs1 HB1.out (by have := HNL.out; omega); simpa [zt, List.append_assoc] using h)
    clear hs1
    go_wp2_with (go_at_call 48; refine HF.out.mono ?_; rintro e w2 ⟨v2, rfl, hb2⟩; have HB2 := Aside0.mk hb2; clear hb2)
    go_ret
    exact ⟨_, rfl, HB2.out⟩
set_option maxHeartbeats 3200000 in
set_option maxRecDepth 100000 in
theorem az_p (g p : Nat) (k : Int) (m : Int) (neg : Bool) (W0 w : World) (v : Value) (l : List Int) (h : Spc w g p m 0 neg) (hb : Bu W0 w v l) (hg : g < W0.heap.size) (hl : l.length ≤ 700000) :
    Calls Tryz.prog 38 #[.pointer (some ⟨g, 0, none⟩), v, .int .u8 112, .int .i64 k] w (BuPost W0 ((l ++ sgn1 neg) ++ [48])) := by
  have HS : Aside0 (∀ w1 v1 l1, Bu W0 w1 v1 l1 → Spc w1 g p m 0 neg) := ⟨fun w1 v1 l1 h1 => (h1.bel.block g hg).trans ((hb.bel.block g hg).symm.trans h)⟩
  have HB := Aside0.mk hb
  have HN := Aside0.mk hl
  obtain ⟨l1, hl1⟩ : ∃ l1, l1 = l ++ sgn1 neg := ⟨_, rfl⟩
  rw [← hl1]
  have HL1 := Aside0.mk hl1
  have HNL : Aside0 (l1.length ≤ 900000) := ⟨by rw [hl1, List.length_append]; cases neg <;> simp [sgn1] <;> omega⟩
  have hu := Tryz.underlying87
  obtain ⟨c0, c1, c2, c3, c4, c5, c6, f0, f1, f2, f3, f4, f5, f6⟩ := blk7 h.blk
  have lg := hp_lt h.blk
  clear h hb hl hl1
  go_enter Tryz.func38, Tryz.ntmps38
  go_upto_if 16 with (fail)
  go_cut [1] (fun v1 wx => Aside0 (Bu W0 wx v1 l1))
  case first => as_aux_lemma =>
    cases neg with
    | true =>
      go_wp2_with (with_reducible refine bu_byte rfl _ _ rfl W0 v l 45 rfl ?h1 rfl ?h2 ?h3)
      case h1 => exact HB.out
      case h2 => exact Nat.le_trans HN.out (by decide)
      case h3 =>
        intro v1 w1 hb1
        have HB1 : Aside0 (Bu W0 w1 v1 l1) := ⟨by rw [HL1.out]; exact hb1⟩
        clear hb1
        go_wp2_with (fail)
        go_meet
        case rel => exact HB1
    | false =>
      have HB1 : Aside0 (Bu W0 w v l1) := ⟨by rw [HL1.out, show l ++ sgn1 false = l from List.append_nil _]; exact HB.out⟩
      go_wp2_with (fail)
      go_meet
      case rel => exact HB1
  case rest =>
    have HB1 := hcut
    clear hcut c0 c1 c2 c3 c4 c5 c6 f0 f1 f2 f3 f4 f5 f6 lg HB
    obtain ⟨v1, hv1⟩ : ∃ v1, v1 = u1 := ⟨_, rfl⟩
    obtain ⟨w1, hw1⟩ : ∃ w1, w1 = wc := ⟨_, rfl⟩
    rw [← hv1, ← hw1] at HB1
    rw [← hv1, ← hw1]
    clear hv1 hw1
    have hs1 := HS.out w1 v1 _ HB1.out
    obtain ⟨c0, c1, c2, c3, c4, c5, c6, f0, f1, f2, f3, f4, f5, f6⟩ := blk7 hs1.blk
    have lg := hp_lt hs1.blk
    have HF : Aside0 (Calls Tryz.prog 49 #[.pointer (some ⟨g, 0, none⟩), v1] w1 (BuPost W0 (l1 ++ [48]))) := Aside0.mk (by have h := fmtP0 g p m neg W0 w1 v1 l1 hs1 HB1.out (by have := HNL.out; omega); simpa [zt, List.append_assoc] using h)
    clear hs1
    go_wp2_with (go_at_call 49; refine HF.out.mono ?_; rintro e w2 ⟨v2, rfl, hb2⟩; have HB2 := Aside0.mk hb2; clear hb2)
    go_ret
    exact ⟨_, rfl, HB2.out⟩
set_option maxHeartbeats 3200000 in
set_option maxRecDepth 100000 in
theorem az_xk (g p : Nat) (k : Nat) (m : Int) (neg : Bool) (W0 w : World) (v : Value) (l : List Int) (h : Spc w g p m 0 neg) (hb : Bu W0 w v l) (hg : g < W0.heap.size) (hl : l.length ≤ 700000) (hk : k ≤ 1000000) :
    Calls Tryz.prog 38 #[.pointer (some ⟨g, 0, none⟩), v, .int .u8 120, .int .i64 (k : Int)] w (BuPost W0 ((l ++ sgn1 neg) ++ ([48, 120, 48] ++ zt k ++ [112, 43, 48, 48]))) := by
  have HS : Aside0 (∀ w1 v1 l1, Bu W0 w1 v1 l1 → Spc w1 g p m 0 neg) := ⟨fun w1 v1 l1 h1 => (h1.bel.block g hg).trans ((hb.bel.block g hg).symm.trans h)⟩
  have HB := Aside0.mk hb
  have HN := Aside0.mk hl
  obtain ⟨l1, hl1⟩ : ∃ l1, l1 = l ++ sgn1 neg := ⟨_, rfl⟩
  rw [← hl1]
  have HL1 := Aside0.mk hl1
  have HNL : Aside0 (l1.length ≤ 900000) := ⟨by rw [hl1, List.length_append]; cases neg <;> simp [sgn1] <;> omega⟩
  have hu := Tryz.underlying87
  obtain ⟨c0, c1, c2, c3, c4, c5, c6, f0, f1, f2, f3, f4, f5, f6⟩ := blk7 h.blk
  have lg := hp_lt h.blk
  clear h hb hl hl1
  go_enter Tryz.func38, Tryz.ntmps38
  go_upto_if 16 with (fail)
  go_cut [1] (fun v1 wx => Aside0 (Bu W0 wx v1 l1))
  case first => as_aux_lemma =>
    cases neg with
    | true =>
      go_wp2_with (with_reducible refine bu_byte rfl _ _ rfl W0 v l 45 rfl ?h1 rfl ?h2 ?h3)
      case h1 => exact HB.out
      case h2 => exact Nat.le_trans HN.out (by decide)
      case h3 =>
        intro v1 w1 hb1
        have HB1 : Aside0 (Bu W0 w1 v1 l1) := ⟨by rw [HL1.out]; exact hb1⟩
        clear hb1
        go_wp2_with (fail)
        go_meet
        case rel => exact HB1
    | false =>
      have HB1 : Aside0 (Bu W0 w v l1) := ⟨by rw [HL1.out, show l ++ sgn1 false = l from List.append_nil _]; exact HB.out⟩
      go_wp2_with (fail)
      go_meet
      case rel => exact HB1
  case rest =>
    have HB1 := hcut
    clear hcut c0 c1 c2 c3 c4 c5 c6 f0 f1 f2 f3 f4 f5 f6 lg HB
    obtain ⟨v1, hv1⟩ : ∃ v1, v1 = u1 := ⟨_, rfl⟩
    obtain ⟨w1, hw1⟩ : ∃ w1, w1 = wc := ⟨_, rfl⟩
    rw [← hv1, ← hw1] at HB1
    rw [← hv1, ← hw1]
    clear hv1 hw1
    have hs1 := HS.out w1 v1 _ HB1.out
    obtain ⟨c0, c1, c2, c3, c4, c5, c6, f0, f1, f2, f3, f4, f5, f6⟩ := blk7 hs1.blk
    have lg := hp_lt hs1.blk
    have HF : Aside0 (Calls Tryz.prog 50 #[.pointer (some ⟨g, 0, none⟩), v1, .int .i64 (k : Int)] w1 (BuPost W0 (l1 ++ ([48, 120, 48] ++ zt k ++ [112, 43, 48, 48])))) := Aside0.mk (by have h := fmtX0 g p k m neg W0 w1 v1 l1 hs1 HB1.out (by have := HNL.out; omega) hk; simpa [zt, List.append_assoc] using h)
    clear hs1
    go_wp2_with (go_at_call 50; refine HF.out.mono ?_; rintro e w2 ⟨v2, rfl, hb2⟩; have HB2 := Aside0.mk hb2; clear hb2)
    go_ret
    exact ⟨_, rfl, HB2.out⟩
set_option maxHeartbeats 3200000 in
set_option maxRecDepth 100000 in
theorem az_xm (g p : Nat) (m : Int) (neg : Bool) (W0 w : World) (v : Value) (l : List Int) (h : Spc w g p m 0 neg) (hb : Bu W0 w v l) (hg : g < W0.heap.size) (hl : l.length ≤ 700000) :
    Calls Tryz.prog 38 #[.pointer (some ⟨g, 0, none⟩), v, .int .u8 120, .int .i64 (-1)] w (BuPost W0 ((l ++ sgn1 neg) ++ ([48, 120, 48] ++ [112, 43, 48, 48]))) := by
  have HS : Aside0 (∀ w1 v1 l1, Bu W0 w1 v1 l1 → Spc w1 g p m 0 neg) := ⟨fun w1 v1 l1 h1 => (h1.bel.block g hg).trans ((hb.bel.block g hg).symm.trans h)⟩
  have HB := Aside0.mk hb
  have HN := Aside0.mk hl
  obtain ⟨l1, hl1⟩ : ∃ l1, l1 = l ++ sgn1 neg := ⟨_, rfl⟩
  rw [← hl1]
  have HL1 := Aside0.mk hl1
  have HNL : Aside0 (l1.length ≤ 900000) := ⟨by rw [hl1, List.length_append]; cases neg <;> simp [sgn1] <;> omega⟩
  have hu := Tryz.underlying87
  obtain ⟨c0, c1, c2, c3, c4, c5, c6, f0, f1, f2, f3, f4, f5, f6⟩ := blk7 h.blk
  have lg := hp_lt h.blk
  clear h hb hl hl1
  go_enter Tryz.func38, Tryz.ntmps38
  go_upto_if 16 with (fail)
  go_cut [1] (fun v1 wx => Aside0 (Bu W0 wx v1 l1))
  case first => as_aux_lemma =>
    cases neg with
    | true =>
      go_wp2_with (with_reducible refine bu_byte rfl _ _ rfl W0 v l 45 rfl ?h1 rfl ?h2 ?h3)
      case h1 => exact HB.out
      case h2 => exact Nat.le_trans HN.out (by decide)
      case h3 =>
        intro v1 w1 hb1
        have HB1 : Aside0 (Bu W0 w1 v1 l1) := ⟨by rw [HL1.out]; exact hb1⟩
        clear hb1
        go_wp2_with (fail)
        go_meet
        case rel => exact HB1
    | false =>
      have HB1 : Aside0 (Bu W0 w v l1) := ⟨by rw [HL1.out, show l ++ sgn1 false = l from List.append_nil _]; exact HB.out⟩
      go_wp2_with (fail)
      go_meet
      case rel => exact HB1
  case rest =>
    have HB1 := hcut
    clear hcut c0 c1 c2 c3 c4 c5 c6 f0 f1 f2 f3 f4 f5 f6 lg HB
    obtain ⟨v1, hv1⟩ : ∃ v1, v1 = u1 := ⟨_, rfl⟩
    obtain ⟨w1, hw1⟩ : ∃ w1, w1 = wc := ⟨_, rfl⟩
    rw [← hv1, ← hw1] at HB1
    rw [← hv1, ← hw1]
    clear hv1 hw1
    have hs1 := HS.out w1 v1 _ HB1.out
    obtain ⟨c0, c1, c2, c3, c4, c5, c6, f0, f1, f2, f3, f4, f5, f6⟩ := blk7 hs1.blk
    have lg := hp_lt hs1.blk
    have HF : Aside0 (Calls Tryz.prog 50 #[.pointer (some ⟨g, 0, none⟩), v1, .int .i64 (-1)] w1 (BuPost W0 (l1 ++ ([48, 120, 48] ++ [112, 43, 48, 48])))) := Aside0.mk (by have h := fmtXm g p m neg W0 w1 v1 l1 hs1 HB1.out (by have := HNL.out; omega); simpa [zt, List.append_assoc] using h)
    clear hs1
    go_wp2_with (go_at_call 50; refine HF.out.mono ?_; rintro e w2 ⟨v2, rfl, hb2⟩; have HB2 := Aside0.mk hb2; clear hb2)
    go_ret
    exact ⟨_, rfl, HB2.out⟩
end Go.Proofs.YtfnknldbjckgoaaGreatDoor.Sp
