/-
  Several texts in one (merged by program).
-/
import Derived.Test.YtfnknldbjckgoaaGreatDoorZGtxb
import Derived.Test.YtfnknldbjckgoaaGreatDoorZGexa
import Derived.Test.YtfnknldbjckgoaaGreatDoorZBuf
/-! ## TextE -/
section
namespace Go.Proofs.YtfnknldbjckgoaaGreatDoor.Sp
open Go.RowKit Go.Proofs.YtfnknldbjckgoaaGreatDoorW.PrintWords Go.Proofs.YtfnknldbjckgoaaGreatDoorW.PrintLast Go.Proofs.YtfnknldbjckgoaaGreatDoorW.PrintMore Go.Proofs.YtfnknldbjckgoaaGreatDoor.Dig
set_option linter.unusedVariables false
set_option linter.unusedSimpArgs false
set_option maxHeartbeats 3200000 in
set_option maxRecDepth 100000 in
theorem fmtE0 (k : Nat) (ch : Int) (W0 w : World) (v : Value) (l : List Int) (hb : Bu W0 w v l) (hl : l.length ≤ 1000000) (hk : k ≤ 1000000) :
    Calls Tryz.prog 55 #[v, .int .u8 ch, .int .i64 (k : Int), .agg #[.slice none 0 0, .int .i64 0]] w (BuPost W0 (l ++ [48] ++ zt k ++ [ch, 43, 48, 48])) := by
  have HB : Aside0 (Bu W0 (w.alloc (.cells #[.slice none 0 0, .int .i64 0] 87)) v l) := ⟨hb.alloc _⟩
  have KX : Aside0 (hp (w.alloc (.cells #[.slice none 0 0, .int .i64 0] 87)) w.heap.size = some (.cells #[.slice none 0 0, .int .i64 0] 87 (0, 0))) := ⟨hp_new _ _ _ rfl⟩
  obtain ⟨l1, hl1⟩ : ∃ l1, l1 = l ++ [48] := ⟨_, rfl⟩
  have HL1 := Aside0.mk hl1
  have HN1 : Aside0 (l1.length ≤ 1000001) := ⟨by rw [hl1]; simp; omega⟩
  rw [← hl1]
  have hu := Tryz.underlying87
  clear hb hl1
  by_cases hk0 : k = 0
  · subst hk0
    have hz : zt 0 = [] := rfl
    rw [hz, List.append_nil]
    clear hz
    go_enter Tryz.func55, Tryz.ntmps55
    go_upto_region 4 with (fail)
    obtain ⟨w0, hw0⟩ : ∃ w0, w0 = w.alloc (.cells #[.slice none 0 0, .int .i64 0] 87) := ⟨_, rfl⟩
    rw [← hw0] at HB KX ⊢
    clear hw0
    obtain ⟨c0, c1, f0, f1⟩ := blk2 KX.out
    have lg0 := hp_lt KX.out
    go_wp2_with (with_reducible refine bu_byte' rfl _ _ rfl W0 v l 48 rfl ?h1 rfl ?h2 ?h3)
    case h1 => exact HB.out
    case h2 => exact Nat.le_trans hl (by decide)
    case h3 =>
      intro v1 w1 hb1 hf1
      have HB1 : Aside0 (Bu W0 w1 v1 l1) := ⟨by rw [HL1.out]; exact hb1⟩
      have KX1 := Aside0.mk (hf1 _ _ _ _ KX.out (by decide))
      have HNZ : Aside0 (l1.length ≤ 3000000) := ⟨Nat.le_trans HN1.out (by decide)⟩
      clear hb1 hf1 c0 c1 f0 f1 lg0
      obtain ⟨c0, c1, f0, f1⟩ := blk2 KX1.out
      have lg1 := hp_lt KX1.out
      obtain ⟨la, hla⟩ : ∃ la, la = l1 ++ [ch] := ⟨_, rfl⟩
      obtain ⟨lb, hlb⟩ : ∃ lb, lb = la ++ [43] := ⟨_, rfl⟩
      obtain ⟨lc, hlc⟩ : ∃ lc, lc = lb ++ [48] := ⟨_, rfl⟩
      have HLA := Aside0.mk hla
      have HLB := Aside0.mk hlb
      have HLC := Aside0.mk hlc
      have HNA : Aside0 (la.length ≤ 3000010) := ⟨by have := HNZ.out; rw [hla]; simp; omega⟩
      have HNB : Aside0 (lb.length ≤ 3000011) := ⟨by have := HNA.out; rw [hlb]; simp; omega⟩
      have HNC : Aside0 (lc.length ≤ 3000012) := ⟨by have := HNB.out; rw [hlc]; simp; omega⟩
      clear hla hlb hlc
      go_wp2_with (with_reducible refine bu_byte' rfl _ _ rfl W0 v1 l1 ch rfl ?a1 rfl ?a2 ?a3)
      case a1 => exact HB1.out
      case a2 => exact Nat.le_trans HNZ.out (by decide)
      case a3 =>
        intro va wa hba hfa
        have HBA : Aside0 (Bu W0 wa va la) := ⟨by rw [HLA.out]; exact hba⟩
        have KXA := Aside0.mk (hfa _ _ _ _ KX1.out (by decide))
        obtain ⟨a0, a1, b0, b1⟩ := blk2 KXA.out
        have lga := hp_lt KXA.out
        clear hba hfa
        go_wp2_with (with_reducible refine bu_byte' rfl _ _ rfl W0 va la 43 rfl ?a1 rfl ?a2 ?a3)
        case a1 => exact HBA.out
        case a2 => exact Nat.le_trans HNA.out (by decide)
        case a3 =>
          intro vb wb hbb hfb
          have HBB : Aside0 (Bu W0 wb vb lb) := ⟨by rw [HLB.out]; exact hbb⟩
          clear hbb hfb
          go_wp2_with (with_reducible refine bu_byte' rfl _ _ rfl W0 vb lb 48 rfl ?a1 rfl ?a2 ?a3)
          case a1 => exact HBB.out
          case a2 => exact Nat.le_trans HNB.out (by decide)
          case a3 =>
            intro vc wc hbc hfc
            have HBC : Aside0 (Bu W0 wc vc lc) := ⟨by rw [HLC.out]; exact hbc⟩
            have HAP := Aside0.mk (appI0 W0 wc vc lc HBC.out (Nat.le_trans HNC.out (by decide)))
            clear hbc hfc
            go_wp2_with (go_at_call 70; refine HAP.out.mono ?_; rintro e wd ⟨vd, rfl, hbd⟩; have HBD := Aside0.mk hbd; clear hbd)
            go_ret
            exact ⟨_, rfl, by have h := HBD.out; rw [HLC.out, HLB.out, HLA.out] at h; simpa using h⟩
  · have hz : zt k = 46 :: List.replicate k 48 := by rw [zt, if_neg hk0]
    have hk1 : (0 : Int) < (k : Int) := by omega
    have hkn : 0 < k := by omega
    have hkw : IntKind.i64.wrap ((k : Int) + 1) = ((k + 1 : Nat) : Int) := by rw [IntWalk.i64_in _ (by omega)]; omega
    have hkm : (0 : Int) < ((k + 1 : Nat) : Int) := by omega
    obtain ⟨lz, hlz⟩ : ∃ lz, lz = l1 ++ zt k := ⟨_, rfl⟩
    have HLZ := Aside0.mk hlz
    have HZT := Aside0.mk hz
    have HNZ : Aside0 (lz.length ≤ 3000000) := ⟨by have := HN1.out; rw [hlz, hz]; simp; omega⟩
    rw [← hlz]
    clear hk0 hz hlz
    go_enter Tryz.func55, Tryz.ntmps55
    go_upto_region 4 with (fail)
    obtain ⟨w0, hw0⟩ : ∃ w0, w0 = w.alloc (.cells #[.slice none 0 0, .int .i64 0] 87) := ⟨_, rfl⟩
    rw [← hw0] at HB KX ⊢
    clear hw0
    obtain ⟨c0, c1, f0, f1⟩ := blk2 KX.out
    have lg0 := hp_lt KX.out
    go_wp2_with (with_reducible refine bu_byte' rfl _ _ rfl W0 v l 48 rfl ?h1 rfl ?h2 ?h3)
    case h1 => exact HB.out
    case h2 => exact Nat.le_trans hl (by decide)
    case h3 =>
      intro v1 w1 hb1 hf1
      have HB1 : Aside0 (Bu W0 w1 v1 l1) := ⟨by rw [HL1.out]; exact hb1⟩
      have KX1 := Aside0.mk (hf1 _ _ _ _ KX.out (by decide))
      clear hb1 hf1 c0 c1 f0 f1 lg0
      go_wp2_with (with_reducible refine bu_byte' rfl _ _ rfl W0 v1 l1 46 rfl ?h1 rfl ?h2 ?h3)
      case h1 => exact HB1.out
      case h2 => exact Nat.le_trans HN1.out (by decide)
      case h3 =>
        intro v2 w2 hb2 hf2
        have HB2 := Aside0.mk hb2
        have KX2 := Aside0.mk (hf2 _ _ _ _ KX1.out (by decide))
        obtain ⟨c0, c1, f0, f1⟩ := blk2 KX2.out
        have lg2 := hp_lt KX2.out
        clear hb2 hf2
        go_wp2_with (fail)
        go_loopw [0, 10] (fun v1 v10 wr => ∃ i : Nat, i ≤ k ∧ v10 = .int .i64 ((i : Int) + 1) ∧ Aside0 (Bu W0 wr v1 (l1 ++ 46 :: List.replicate i 48)) ∧ Aside0 (hp wr w.heap.size = some (.cells #[.slice none 0 0, .int .i64 0] 87 (0, 0)))) (fun _ v10 _ => k + 1 - (intOf v10).toNat)
        case atStart => exact ⟨0, by omega, rfl, HB2, KX2⟩
        case round =>
          obtain ⟨i, hi, rfl, HBI, KXI⟩ := hrel
          have HNI : Aside0 ((l1 ++ 46 :: List.replicate i 48).length ≤ 2000010) := ⟨by have := HN1.out; simp; omega⟩
          by_cases hik : i = k
          · subst hik
            have HBZ : Aside0 (Bu W0 wr _ lz) := ⟨by rw [HLZ.out, HZT.out]; exact HBI.out⟩
            obtain ⟨c0, c1, f0, f1⟩ := blk2 KXI.out
            have lg3 := hp_lt KXI.out
            clear HBI HNI
            obtain ⟨la, hla⟩ : ∃ la, la = lz ++ [ch] := ⟨_, rfl⟩
            obtain ⟨lb, hlb⟩ : ∃ lb, lb = la ++ [43] := ⟨_, rfl⟩
            obtain ⟨lc, hlc⟩ : ∃ lc, lc = lb ++ [48] := ⟨_, rfl⟩
            have HLA := Aside0.mk hla
            have HLB := Aside0.mk hlb
            have HLC := Aside0.mk hlc
            have HNA : Aside0 (la.length ≤ 3000010) := ⟨by have := HNZ.out; rw [hla]; simp; omega⟩
            have HNB : Aside0 (lb.length ≤ 3000011) := ⟨by have := HNA.out; rw [hlb]; simp; omega⟩
            have HNC : Aside0 (lc.length ≤ 3000012) := ⟨by have := HNB.out; rw [hlc]; simp; omega⟩
            clear hla hlb hlc
            go_wp2_with (with_reducible refine bu_byte' rfl _ _ rfl W0 _ lz ch rfl ?a1 rfl ?a2 ?a3)
            case a1 => exact HBZ.out
            case a2 => exact Nat.le_trans HNZ.out (by decide)
            case a3 =>
              intro va wa hba hfa
              have HBA : Aside0 (Bu W0 wa va la) := ⟨by rw [HLA.out]; exact hba⟩
              have KXA := Aside0.mk (hfa _ _ _ _ KXI.out (by decide))
              obtain ⟨a0, a1, b0, b1⟩ := blk2 KXA.out
              have lga := hp_lt KXA.out
              clear hba hfa
              go_wp2_with (with_reducible refine bu_byte' rfl _ _ rfl W0 va la 43 rfl ?a1 rfl ?a2 ?a3)
              case a1 => exact HBA.out
              case a2 => exact Nat.le_trans HNA.out (by decide)
              case a3 =>
                intro vb wb hbb hfb
                have HBB : Aside0 (Bu W0 wb vb lb) := ⟨by rw [HLB.out]; exact hbb⟩
                clear hbb hfb
                go_wp2_with (with_reducible refine bu_byte' rfl _ _ rfl W0 vb lb 48 rfl ?a1 rfl ?a2 ?a3)
                case a1 => exact HBB.out
                case a2 => exact Nat.le_trans HNB.out (by decide)
                case a3 =>
                  intro vc wc hbc hfc
                  have HBC : Aside0 (Bu W0 wc vc lc) := ⟨by rw [HLC.out]; exact hbc⟩
                  have HAP := Aside0.mk (appI0 W0 wc vc lc HBC.out (Nat.le_trans HNC.out (by decide)))
                  clear hbc hfc
                  go_wp2_with (go_at_call 70; refine HAP.out.mono ?_; rintro e wd ⟨vd, rfl, hbd⟩; have HBD := Aside0.mk hbd; clear hbd)
                  go_ret
                  exact ⟨_, rfl, by have h := HBD.out; rw [HLC.out, HLB.out, HLA.out] at h; simpa using h⟩
          · have hlt : (i : Int) + 1 ≤ (k : Int) := by omega
            have hiw : IntKind.i64.wrap ((i : Int) + 1 + 1) = ((i + 1 : Nat) : Int) + 1 := by rw [IntWalk.i64_in _ (by omega)]; omega
            go_wp2_with (with_reducible refine bu_byte' rfl _ _ rfl W0 _ (l1 ++ 46 :: List.replicate i 48) 48 rfl ?j1 rfl ?j2 ?j3)
            case j1 => exact HBI.out
            case j2 => exact Nat.le_trans HNI.out (by decide)
            case j3 =>
              intro v3 w3 hb3 hf3
              have HB3 : Aside0 (Bu W0 w3 v3 (l1 ++ 46 :: List.replicate (i + 1) 48)) := ⟨by rw [List.replicate_succ']; first | exact hb3 | (simpa using hb3)⟩
              have KX3 := Aside0.mk (hf3 _ _ _ _ KXI.out (by decide))
              clear hb3 hf3
              go_wp2_with (fail)
              go_roundw
              case rel => exact ⟨i + 1, by omega, by simp, HB3, KX3⟩
              case measure => simp [intOf]; omega
end Go.Proofs.YtfnknldbjckgoaaGreatDoor.Sp
end

/-! ## TextF -/
section
namespace Go.Proofs.YtfnknldbjckgoaaGreatDoor.Sp
open Go.RowKit Go.Proofs.YtfnknldbjckgoaaGreatDoorW.PrintWords Go.Proofs.YtfnknldbjckgoaaGreatDoorW.PrintLast Go.Proofs.YtfnknldbjckgoaaGreatDoorW.PrintMore Go.Proofs.YtfnknldbjckgoaaGreatDoor.Dig
set_option linter.unusedVariables false
set_option linter.unusedSimpArgs false
/-- An empty decimal in block b. -/
def Dec0 (w : World) (b : Nat) : Prop := hp w b = some (.cells #[.slice none 0 0, .int .i64 0] 87 (0, 0))
set_option maxHeartbeats 1600000 in
set_option maxRecDepth 100000 in
theorem at0 (b : Nat) (i : Int) (w : World) (h : Dec0 w b) (hi : 0 ≤ i) : Calls Tryz.prog 82 #[.pointer (some ⟨b, 0, none⟩), .int .i64 i] w fun e w' => e = .returned (.int .u8 48) ∧ Below w.heap.size w w' := by
  obtain ⟨c0, c1, f0, f1⟩ := blk2 (show hp w b = some (.cells #[.slice none 0 0, .int .i64 0] 87 (0, 0)) from h)
  have lg := hp_lt h
  have hlt : ¬ i < 0 := by omega
  clear h
  go_enter Tryz.func82, Tryz.ntmps82
  go_wp2_with (fail)
  go_ret
  exact ⟨rfl, Below.refl _ _⟩
set_option maxHeartbeats 1600000 in
set_option maxRecDepth 100000 in
theorem round0 (b : Nat) (n : Int) (w : World) (h : Dec0 w b) : Calls Tryz.prog 54 #[.pointer (some ⟨b, 0, none⟩), .int .i64 n] w fun e w' => e = .returned (.tuple #[]) ∧ Below w.heap.size w w' := by
  obtain ⟨c0, c1, f0, f1⟩ := blk2 (show hp w b = some (.cells #[.slice none 0 0, .int .i64 0] 87 (0, 0)) from h)
  have lg := hp_lt h
  clear h
  by_cases hn : n < 0
  · go_enter Tryz.func54, Tryz.ntmps54
    go_wp2_with (fail)
    refine bodyPost_ret (v := .tuple #[]) (by simp [results, Tryz.results54, go_sem]) rfl ?_
    exact ⟨rfl, Below.refl _ _⟩
  · have hn0 : 0 ≤ n := by omega
    go_enter Tryz.func54, Tryz.ntmps54
    go_wp2_with (fail)
    refine bodyPost_ret (v := .tuple #[]) (by simp [results, Tryz.results54, go_sem]) rfl ?_
    exact ⟨rfl, Below.refl _ _⟩
set_option maxHeartbeats 3200000 in
set_option maxRecDepth 100000 in
theorem fmtF0 (k : Nat) (W0 w : World) (v : Value) (l : List Int) (hb : Bu W0 w v l) (hl : l.length ≤ 1000000) (hk : k ≤ 1000000) :
    Calls Tryz.prog 56 #[v, .int .i64 (k : Int), .agg #[.slice none 0 0, .int .i64 0]] w (BuPost W0 (l ++ [48] ++ zt k)) := by
  have HB : Aside0 (Bu W0 (w.alloc (.cells #[.slice none 0 0, .int .i64 0] 87)) v l) := ⟨hb.alloc _⟩
  have KX : Aside0 (hp (w.alloc (.cells #[.slice none 0 0, .int .i64 0] 87)) w.heap.size = some (.cells #[.slice none 0 0, .int .i64 0] 87 (0, 0))) := ⟨hp_new _ _ _ rfl⟩
  obtain ⟨l1, hl1⟩ : ∃ l1, l1 = l ++ [48] := ⟨_, rfl⟩
  have HL1 := Aside0.mk hl1
  have HN1 : Aside0 (l1.length ≤ 1000001) := ⟨by rw [hl1]; simp; omega⟩
  rw [← hl1]
  have hu := Tryz.underlying87
  clear hb hl1
  by_cases hk0 : k = 0
  · subst hk0
    have hz : zt 0 = [] := rfl
    rw [hz, List.append_nil]
    clear hz
    go_enter Tryz.func56, Tryz.ntmps56
    go_upto_region 7 with (fail)
    obtain ⟨w0, hw0⟩ : ∃ w0, w0 = w.alloc (.cells #[.slice none 0 0, .int .i64 0] 87) := ⟨_, rfl⟩
    rw [← hw0] at HB KX ⊢
    clear hw0
    go_wp2_with (with_reducible refine bu_byte' rfl _ _ rfl W0 v l 48 rfl ?h1 rfl ?h2 ?h3)
    case h1 => exact HB.out
    case h2 => exact Nat.le_trans hl (by decide)
    case h3 =>
      intro v1 w1 hb1 hf1
      have HB1 : Aside0 (Bu W0 w1 v1 l1) := ⟨by rw [HL1.out]; exact hb1⟩
      clear hb1 hf1
      go_wp2_with (fail)
      go_ret
      exact ⟨_, rfl, HB1.out⟩
  · have hz : zt k = 46 :: List.replicate k 48 := by rw [zt, if_neg hk0]
    have hk1 : (0 : Int) < (k : Int) := by omega
    have hkn : 0 < k := by omega
    obtain ⟨lz, hlz⟩ : ∃ lz, lz = l1 ++ zt k := ⟨_, rfl⟩
    have HLZ := Aside0.mk hlz
    have HZT := Aside0.mk hz
    rw [← hlz]
    clear hk0 hz hlz
    go_enter Tryz.func56, Tryz.ntmps56
    go_upto_region 7 with (fail)
    obtain ⟨w0, hw0⟩ : ∃ w0, w0 = w.alloc (.cells #[.slice none 0 0, .int .i64 0] 87) := ⟨_, rfl⟩
    rw [← hw0] at HB KX ⊢
    clear hw0
    go_wp2_with (with_reducible refine bu_byte' rfl _ _ rfl W0 v l 48 rfl ?h1 rfl ?h2 ?h3)
    case h1 => exact HB.out
    case h2 => exact Nat.le_trans hl (by decide)
    case h3 =>
      intro v1 w1 hb1 hf1
      have HB1 : Aside0 (Bu W0 w1 v1 l1) := ⟨by rw [HL1.out]; exact hb1⟩
      have KX1 := Aside0.mk (hf1 _ _ _ _ KX.out (by decide))
      clear hb1 hf1
      go_wp2_with (with_reducible refine bu_byte' rfl _ _ rfl W0 v1 l1 46 rfl ?h1 rfl ?h2 ?h3)
      case h1 => exact HB1.out
      case h2 => exact Nat.le_trans HN1.out (by decide)
      case h3 =>
        intro v2 w2 hb2 hf2
        have HB2 := Aside0.mk hb2
        have KX2 := Aside0.mk (hf2 _ _ _ _ KX1.out (by decide))
        clear hb2 hf2
        go_wp2_with (fail)
        go_loopw [0, 8] (fun v1 v8 wr => ∃ i : Nat, i ≤ k ∧ v8 = .int .i64 (i : Int) ∧ Aside0 (Bu W0 wr v1 (l1 ++ 46 :: List.replicate i 48)) ∧ Aside0 (hp wr w.heap.size = some (.cells #[.slice none 0 0, .int .i64 0] 87 (0, 0)))) (fun _ v8 _ => k - (intOf v8).toNat)
        case atStart => exact ⟨0, by omega, rfl, HB2, KX2⟩
        case round =>
          obtain ⟨i, hi, rfl, HBI, KXI⟩ := hrel
          have HNI : Aside0 ((l1 ++ 46 :: List.replicate i 48).length ≤ 2000010) := ⟨by have := HN1.out; simp; omega⟩
          by_cases hik : i = k
          · subst hik
            have HBZ : Aside0 (Bu W0 wr _ lz) := ⟨by rw [HLZ.out, HZT.out]; exact HBI.out⟩
            clear HBI HNI
            go_wp2_with (fail)
            go_ret
            exact ⟨_, rfl, HBZ.out⟩
          · have hlt : (i : Int) < (k : Int) := by omega
            have hiw : IntKind.i64.wrap ((i : Int) + 1) = ((i + 1 : Nat) : Int) := by rw [IntWalk.i64_in _ (by omega)]; omega
            have hiw2 : IntKind.i64.wrap (i : Int) = (i : Int) := IntWalk.i64_in _ (by omega)
            obtain ⟨c0, c1, f0, f1⟩ := blk2 KXI.out
            have lgi := hp_lt KXI.out
            go_wp2_with (first | (go_at_call 82; refine (at0 w.heap.size i _ KXI.out (by omega)).mono ?_; rintro e w3 ⟨rfl, hb3⟩; have HBJ := Aside0.mk (HBI.out.below hb3); have KXJ := Aside0.mk (hp_below KXI.out hb3); clear hb3) | (with_reducible refine bu_byte' rfl _ _ rfl W0 _ (l1 ++ 46 :: List.replicate i 48) 48 rfl ?j1 rfl ?j2 ?j3) | fail)
            case j1 => exact HBJ.out
            case j2 => exact Nat.le_trans HNI.out (by decide)
            case j3 =>
              intro v4 w4 hb4 hf4
              have HB4 : Aside0 (Bu W0 w4 v4 (l1 ++ 46 :: List.replicate (i + 1) 48)) := ⟨by rw [List.replicate_succ']; first | exact hb4 | (simpa using hb4)⟩
              have KX4 := Aside0.mk (hf4 _ _ _ _ KXJ.out (by decide))
              clear hb4 hf4
              go_wp2_with (fail)
              go_roundw
              case rel => exact ⟨i + 1, by omega, by simp, HB4, KX4⟩
              case measure => simp [intOf]; omega
end Go.Proofs.YtfnknldbjckgoaaGreatDoor.Sp
end

/-! ## AppG -/
section
namespace Go.Proofs.YtfnknldbjckgoaaGreatDoor.Sp
open Go.RowKit Go.Proofs.YtfnknldbjckgoaaGreatDoorW.PrintWords Go.Proofs.YtfnknldbjckgoaaGreatDoorW.PrintLast Go.Proofs.YtfnknldbjckgoaaGreatDoorW.PrintMore Go.Proofs.YtfnknldbjckgoaaGreatDoor.Dig
set_option linter.unusedVariables false
set_option linter.unusedSimpArgs false
end Go.Proofs.YtfnknldbjckgoaaGreatDoor.Sp
end

/-! ## TextInf -/
section
namespace Go.Proofs.YtfnknldbjckgoaaGreatDoor.Sp
open Go.RowKit Go.Proofs.YtfnknldbjckgoaaGreatDoorW.PrintWords Go.Proofs.YtfnknldbjckgoaaGreatDoorW.PrintLast Go.Proofs.YtfnknldbjckgoaaGreatDoorW.PrintMore Go.Proofs.YtfnknldbjckgoaaGreatDoor.Dig
set_option linter.unusedVariables false
set_option linter.unusedSimpArgs false
/-- The text of an infinity. -/
def infT (neg : Bool) : List Int := (if neg then 45 else 43) :: [73, 110, 102]
set_option maxHeartbeats 1600000 in
set_option maxRecDepth 100000 in
theorem append_inf (g p : Nat) (m ch k : Int) (neg : Bool) (W0 w : World) (v : Value) (l : List Int) (h : Spc w g p m 2 neg) (hb : Bu W0 w v l) (hg : g < W0.heap.size) (hl : l.length ≤ 1000000) :
    Calls Tryz.prog 38 #[.pointer (some ⟨g, 0, none⟩), v, .int .u8 ch, .int .i64 k] w fun e w' => ∃ v', e = .returned v' ∧ Bu W0 w' v' (l ++ infT neg) := by
  have HS : Aside0 (∀ w1 v1 l1, Bu W0 w1 v1 l1 → Spc w1 g p m 2 neg) := ⟨fun w1 v1 l1 h1 => (h1.bel.block g hg).trans ((hb.bel.block g hg).symm.trans h)⟩
  have HB := Aside0.mk hb
  obtain ⟨c0, c1, c2, c3, c4, c5, c6, f0, f1, f2, f3, f4, f5, f6⟩ := blk7 h.blk
  have lg := hp_lt h.blk
  obtain ⟨A, n, c, rfl⟩ : ∃ A n c, v = .slice A n c := by
    obtain ⟨A, c, h1, _⟩ := hb.slice
    exact ⟨A, _, c, h1⟩
  clear h hb
  cases neg with
  | true =>
    go_enter Tryz.func38, Tryz.ntmps38
    go_wp2_with (with_reducible refine bu_byte rfl _ _ rfl W0 (.slice A n c) l 45 rfl ?h1 rfl ?h2 ?h3)
    case h1 => exact HB.out
    case h2 => exact Nat.le_trans hl (by omega)
    case h3 =>
      intro v1 w1 hb1
      have HB1 := Aside0.mk hb1
      have hl1 : (l ++ [45]).length ≤ 1000001 := by simp; omega
      have HL1 := Aside0.mk hl1
      clear c0 c1 c2 c3 c4 c5 c6 f0 f1 f2 f3 f4 f5 f6 lg hl1
      obtain ⟨c0, c1, c2, c3, c4, c5, c6, f0, f1, f2, f3, f4, f5, f6⟩ := blk7 (HS.out w1 v1 _ hb1).blk
      have lg := hp_lt (HS.out w1 v1 _ hb1).blk
      clear hb1
      go_wp2_with (with_reducible refine bu_str rfl _ _ 9 rfl Tryz.underlying9 W0 v1 (l ++ [45]) rfl ?k1 ⟨#[73, 110, 102]⟩ rfl ?k2 ?k3)
      case k1 => exact HB1.out
      case k2 => exact Nat.le_trans (Nat.add_le_add_right HL1.out _) (by decide)
      case k3 =>
        intro v2 w2 hb2
        have HB2 := Aside0.mk hb2
        clear hb2
        go_wp2_with (fail)
        go_ret
        exact ⟨_, rfl, HB2.out⟩
  | false =>
    go_enter Tryz.func38, Tryz.ntmps38
    go_wp2_with (with_reducible refine bu_byte rfl _ _ rfl W0 (.slice A n c) l 43 rfl ?h1 rfl ?h2 ?h3)
    case h1 => exact HB.out
    case h2 => exact Nat.le_trans hl (by omega)
    case h3 =>
      intro v1 w1 hb1
      have HB1 := Aside0.mk hb1
      have hl1 : (l ++ [43]).length ≤ 1000001 := by simp; omega
      have HL1 := Aside0.mk hl1
      clear c0 c1 c2 c3 c4 c5 c6 f0 f1 f2 f3 f4 f5 f6 lg hl1
      obtain ⟨c0, c1, c2, c3, c4, c5, c6, f0, f1, f2, f3, f4, f5, f6⟩ := blk7 (HS.out w1 v1 _ hb1).blk
      have lg := hp_lt (HS.out w1 v1 _ hb1).blk
      clear hb1
      go_wp2_with (with_reducible refine bu_str rfl _ _ 9 rfl Tryz.underlying9 W0 v1 (l ++ [43]) rfl ?k1 ⟨#[73, 110, 102]⟩ rfl ?k2 ?k3)
      case k1 => exact HB1.out
      case k2 => exact Nat.le_trans (Nat.add_le_add_right HL1.out _) (by decide)
      case k3 =>
        intro v2 w2 hb2
        have HB2 := Aside0.mk hb2
        clear hb2
        go_wp2_with (fail)
        go_ret
        exact ⟨_, rfl, HB2.out⟩
end Go.Proofs.YtfnknldbjckgoaaGreatDoor.Sp
end
