/-
  MERGED BY PROGRAM (regroup.py): GenP, FmtE, FmtF, Init.
-/
import Derived.Test.YtfnknldbjckgoaaGreatDoorZGdec
import Derived.Test.YtfnknldbjckgoaaGreatDoorZGdcm
import Derived.Test.YtfnknldbjckgoaaGreatDoorZGtxb
import Derived.Deep.DeepCutAuto
import Derived.Deep.CutBlock
import Derived.Deep.LoopGhost
import Derived.Test.YtfnknldbjckgoaaGreatDoorZGuto
import Derived.StillTailTactics
/-! ## GenP -/
section
namespace Go.Proofs.YtfnknldbjckgoaaGreatDoor.Dig
set_option linter.unusedVariables false
/-! ### General -/
/-- The mark on n > 1 figures behind the first one. -/
def behind (l : List Int) (n : Nat) : List Int := if 1 < n then 46 :: (l.drop 1).take (n - 1) else []
/-- The text with an exponent, in the parts that General reads. -/
def headE (l : List Int) (prec : Int) : List Int := [l.getD 0 48] ++ (if 0 < prec then 46 :: moreT l prec.toNat else [])
/-! ### capital letters -/
end Go.Proofs.YtfnknldbjckgoaaGreatDoor.Dig
end

/-! ## FmtE -/
section
namespace Go.Proofs.YtfnknldbjckgoaaGreatDoor.Sp
open Go.RowKit Go.Proofs.YtfnknldbjckgoaaGreatDoorW.PrintWords Go.Proofs.YtfnknldbjckgoaaGreatDoorW.PrintLast Go.Proofs.YtfnknldbjckgoaaGreatDoorW.PrintMore Go.Proofs.YtfnknldbjckgoaaGreatDoor.Dig
set_option linter.unusedVariables false
set_option linter.unusedSimpArgs false
theorem Bu.own_lt {W0 w : World} {v : Value} {l : List Int} (h : Bu W0 w v l) {k : Nat} (hk : v.ownBlock = some k) : k < w.heap.size ∧ W0.heap.size ≤ k := by
  rcases h.own.2 with ⟨rfl, _⟩ | ⟨g, cap, cur, rfl, hbg, hb, _⟩
  · simp [Value.ownBlock] at hk
  · obtain rfl : g = k := by simpa [Value.ownBlock] using hk
    exact ⟨hp_lt hb, hbg⟩
/-- A new block besides. -/
theorem Bs.new {S : List (Nat × Obj)} {W0 w : World} {v : Value} {l : List Int} (h : Bs S W0 w v l) (o : Obj) : Bs ((w.heap.size, o) :: S) W0 (w.alloc o) v l := by
  refine ⟨h.bu.alloc o, fun p hp => ?_⟩
  rcases List.mem_cons.1 hp with rfl | hp
  · exact ⟨hp_new _ _ _ rfl, fun e => by have := (h.bu.own_lt e).1; simp at this⟩
  · obtain ⟨h1, h2⟩ := h.st p hp
    exact ⟨hp_below h1 (below_alloc (Below.refl _ _) _), h2⟩
theorem bs_rowN {w : World} {ops : Array Oper} {rest : List Oper} {o : Oper} {a : Act} {Q : Exit → Act → World → Prop} (hgd : o.guard = none) (sl x : Operand)
    (ho : o.op = .call { callee := .builtin .append, args := #[sl, x], argTypes := #[43, 43] })
    (S : List (Nat × Obj)) (W0 : World) (v : Value) (l m : List Int) (n : Nat) (ad : Addr) (c : Nat) (hs : a.eval sl = v) (h : Bs S W0 w v l) (hx : a.eval x = .slice (some ad) n c) (hn : m.length = n) (hc : ∀ j, j < m.length → w.cell? (ad.add j) = some (.int .u8 (m.getD j 0))) (hl : l.length + n ≤ 100000000000)
    (k : ∀ v' w', Bs S W0 w' v' (l ++ m) → wpList Tryz.prog ops Q rest (a.put o.dst v') w') : wpList Tryz.prog ops Q (o :: rest) a w := by
  subst hn
  exact bs_row hgd sl x ho S W0 v l m ad c hs h hx hc hl k
theorem row_part {w : World} {g : Nat} {L : List Int} {R : List Value} {t : TypeId} (h : hp w g = some (.cells (nums .u8 L ++ R).toArray t (0, 0))) (i n : Nat) (hn : i + n ≤ L.length) : ∀ j, j < ((L.drop i).take n).length → w.cell? ((⟨g, i, none⟩ : Addr).add j) = some (.int .u8 (((L.drop i).take n).getD j 0)) := by
  intro j hj
  rw [List.length_take, List.length_drop] at hj
  rw [add_spot, row_cell h (i + j) (by omega), List.getD_eq_getElem?_getD, List.getD_eq_getElem?_getD, List.getElem?_take, if_pos (by omega), List.getElem?_drop]
theorem moreT_len (l : List Int) (p : Nat) : (moreT l p).length = p := by
  unfold moreT
  simp
  omega
set_option maxHeartbeats 6400000 in
set_option maxRecDepth 100000 in
theorem fmtE_c (S : List (Nat × Obj)) (W0 w : World) (v : Value) (l : List Int) (ch prec : Int) (g : Nat) (L : List Int) (R : List Value) (e : Int) (hb : Bs S W0 w v l) (hg : (g, .cells (nums .u8 L ++ R).toArray 5 (0, 0)) ∈ S) (hlen : L.length ≤ 10000) (hL0 : 0 < L.length) (hl : l.length ≤ 1000000) (hp : -10 ≤ prec ∧ prec ≤ 10000) (he : -10000000 ≤ e ∧ e ≤ 10000000) (hT : Pw W0) :
    Calls Tryz.prog 55 #[v, .int .u8 ch, .int .i64 prec, .agg #[.slice (some ⟨g, 0, none⟩) L.length (L.length + R.length), .int .i64 e]] w (BuPost W0 (l ++ fmtET (L, e) ch prec)) := by
  have hrow := hb.blk hg
  have lgr := hp_lt hrow
  have hc0 := row_cell hrow 0 hL0
  obtain ⟨x0, hx0⟩ : ∃ x0, x0 = L.getD 0 48 := ⟨_, rfl⟩
  have hx1 : L.getD 0 0 = x0 := by
    rw [hx0, List.getD_eq_getElem?_getD, List.getD_eq_getElem?_getD, List.getElem?_eq_getElem hL0]; rfl
  rw [hx1] at hc0
  obtain ⟨cp, hcp⟩ : ∃ cp, cp = L.length + R.length := ⟨_, rfl⟩
  rw [← hcp]
  have hcl : L.length ≤ cp := by omega
  have HB0' := hb.new (.cells #[.slice (some ⟨g, 0, none⟩) L.length cp, .int .i64 e] 87)
  obtain ⟨S1, hS1⟩ : ∃ S1, S1 = (w.heap.size, Obj.cells #[.slice (some ⟨g, 0, none⟩) L.length cp, .int .i64 e] 87 (0, 0)) :: S := ⟨_, rfl⟩
  rw [← hS1] at HB0'
  have HB0 := Aside0.mk HB0'
  obtain ⟨b, hbb⟩ : ∃ b, b = w.heap.size := ⟨_, rfl⟩
  have HD : Aside0 ((b, Obj.cells #[.slice (some ⟨g, 0, none⟩) L.length cp, .int .i64 e] 87 (0, 0)) ∈ S1) := ⟨by rw [hS1, hbb]; exact List.mem_cons_self⟩
  have HG : Aside0 ((g, Obj.cells (nums .u8 L ++ R).toArray 5 (0, 0)) ∈ S1) := ⟨by rw [hS1]; exact List.mem_cons_of_mem _ hg⟩
  have HPW : Aside0 (Pw W0) := ⟨hT⟩
  obtain ⟨TX, hTX⟩ : ∃ TX, TX = l ++ fmtET (L, e) ch prec := ⟨_, rfl⟩
  rw [← hTX]
  have hn0 : L ≠ [] := List.length_pos_iff.1 hL0
  obtain ⟨E, hE⟩ : ∃ E, E = e - 1 := ⟨_, rfl⟩
  obtain ⟨lB, hlB⟩ : ∃ lB, lB = l ++ headE L prec := ⟨_, rfl⟩
  have HTX : Aside0 (TX = lB ++ [ch] ++ [if E < 0 then 45 else 43] ++ (if E.natAbs < 10 then [48] else []) ++ itoaT E.natAbs) := ⟨by
    rw [hTX, hlB]
    unfold fmtET headE expT
    rw [if_neg (show ¬ (L, e).1 = [] from hn0), hE]
    simp only [List.append_assoc]⟩
  obtain ⟨l1, hl1⟩ : ∃ l1, l1 = l ++ [x0] := ⟨_, rfl⟩
  have HL1 := Aside0.mk hl1
  have HN0 := Aside0.mk hl
  have HN1 : Aside0 (l1.length ≤ 1000001) := ⟨by rw [hl1]; simp; omega⟩
  have HLB : Aside0 (lB = l1 ++ (if 0 < prec then 46 :: moreT L prec.toNat else [])) := ⟨by rw [hlB, hl1, hx0]; unfold headE; rw [List.append_assoc]⟩
  have HNB : Aside0 (lB.length ≤ 1010010) := ⟨by
    have := HN1.out
    rw [HLB.out, List.length_append]
    split
    · rw [List.length_cons, moreT_len]; omega
    · rw [List.length_nil]; omega⟩
  have hu := Tryz.underlying87
  have hew : IntKind.i64.wrap (e - 1) = E := by rw [IntWalk.i64_in _ (by omega), hE]
  have hE2 : -20000000 ≤ E ∧ E ≤ 20000000 := by omega
  clear hb hg hrow hx0 hx1 hS1 HB0' hTX hlB hl1 hl hT hn0 he hcp hE
  go_enter Tryz.func55, Tryz.ntmps55
  go_upto_region 4 with (fail)
  rw [← hbb] at *
  obtain ⟨w0, hw0⟩ : ∃ w0, w0 = w.alloc (.cells #[.slice (some ⟨g, 0, none⟩) L.length cp, .int .i64 e] 87) := ⟨_, rfl⟩
  rw [← hw0] at HB0 ⊢
  clear hw0 hc0 lgr hbb
  go_upto_if 26 with (with_reducible refine bs_byte rfl _ _ rfl S1 W0 v l x0 rfl ?h1 rfl ?h2 ?h3)
  case h1 => exact HB0.out
  case h2 => exact Nat.le_trans HN0.out (by decide)
  case h3 =>
    intro v1 w1 hb1
    have HB1 : Aside0 (Bs S1 W0 w1 v1 l1) := ⟨by rw [HL1.out]; exact hb1⟩
    clear hb1
    go_upto_if 26 with (fail)
    go_cut [0] (fun v0 wx => Aside0 (Bs S1 W0 wx v0 lB))
    case first =>
      by_cases hp0 : 0 < prec
      · obtain ⟨P, rfl⟩ := Int.eq_ofNat_of_zero_le (show 0 ≤ prec by omega)
        obtain ⟨mm, hmm⟩ : ∃ mm, mm = min L.length (P + 1) := ⟨_, rfl⟩
        have hmin : min (L.length : Int) ((P : Int) + 1) = (mm : Int) := by omega
        have hPw : IntKind.i64.wrap ((P : Int) + 1) = (P : Int) + 1 := IntWalk.i64_in _ (by omega)
        obtain ⟨l2, hl2⟩ : ∃ l2, l2 = l1 ++ [46] := ⟨_, rfl⟩
        obtain ⟨M1, hM1⟩ : ∃ M1, M1 = (L.drop 1).take P := ⟨_, rfl⟩
        have hM1l : M1.length = mm - 1 := by rw [hM1, List.length_take, List.length_drop]; omega
        obtain ⟨l3, hl3⟩ : ∃ l3, l3 = l2 ++ M1 := ⟨_, rfl⟩
        have HL2 := Aside0.mk hl2
        have HL3 := Aside0.mk hl3
        have HM1 := Aside0.mk hM1
        have HN2 : Aside0 (l2.length ≤ 1000002) := ⟨by have := HN1.out; rw [hl2]; simp; omega⟩
        have HN3 : Aside0 (l3.length ≤ 1010002) := ⟨by have := HN2.out; rw [hl3, List.length_append, hM1l]; omega⟩
        have HL3B : Aside0 (lB = l3 ++ List.replicate (P + 1 - mm) 48) := ⟨by
          rw [HLB.out, if_pos (by omega), hl3, hl2, hM1, Int.toNat_natCast]
          unfold moreT
          rw [show P - (L.drop 1).length = P + 1 - mm by rw [List.length_drop]; omega]
          simp only [List.append_assoc, List.cons_append, List.nil_append]⟩
        have hmm1 : 1 ≤ mm ∧ mm ≤ P + 1 ∧ mm ≤ L.length := by omega
        have hml : L.length ≤ P + 1 ∨ mm = P + 1 := by omega
        have HMM := Aside0.mk hmm
        have HM1L := Aside0.mk hM1l
        have HHM : Aside0 (M1 = (L.drop 1).take (mm - 1)) := ⟨by
          rw [hM1, hmm]
          by_cases h : L.length ≤ P + 1
          · rw [List.take_of_length_le (by rw [List.length_drop]; omega), List.take_of_length_le (by rw [List.length_drop]; omega)]
          · rw [Nat.min_eq_right (by omega), Nat.add_sub_cancel]⟩
        clear hmm hl2 hM1 hl3 hM1l
        go_wp2_with (with_reducible refine bs_byte rfl _ _ rfl S1 W0 v1 l1 46 rfl ?h1 rfl ?h2 ?h3)
        case h1 => exact HB1.out
        case h2 => exact Nat.le_trans HN1.out (by decide)
        case h3 =>
          intro v2 w2 hb2
          have HB2 : Aside0 (Bs S1 W0 w2 v2 l2) := ⟨by rw [HL2.out]; exact hb2⟩
          clear hb2 HB1 HB0
          obtain ⟨c0, c1, f0, f1⟩ := blk2 (HB2.out.blk HD.out)
          have lb2 := hp_lt (HB2.out.blk HD.out)
          go_upto_if 38 with (fail)
          go_cut [0, 10] (fun v0 v10 wx => v10 = .int .i64 (mm : Int) ∧ Aside0 (Bs S1 W0 wx v0 l3))
          case first =>
            by_cases h1m : 1 < mm
            · have h1mi : (1 : Int) < (mm : Int) := by omega
              have hmcp : mm ≤ cp := by omega
              go_wp2_with (with_reducible refine bs_rowN rfl _ _ rfl S1 W0 v2 l2 M1 (mm - 1) ⟨g, 1, none⟩ (cp - 1) rfl ?r1 rfl ?r2 ?r3 ?r4 ?r5)
              case r1 => exact HB2.out
              case r2 => exact HM1L.out
              case r3 => rw [HHM.out]; exact row_part (HB2.out.blk HG.out) 1 (mm - 1) (by omega)
              case r4 => have := HN2.out; omega
              case r5 =>
                intro v3 w3 hb3
                have HB3 : Aside0 (Bs S1 W0 w3 v3 l3) := ⟨by rw [HL3.out]; exact hb3⟩
                clear hb3
                go_wp2_with (fail)
                go_meet
                case rel => exact ⟨rfl, HB3⟩
            · have hm1 : mm = 1 := by omega
              subst hm1
              have HB3 : Aside0 (Bs S1 W0 w2 v2 l3) := ⟨by
                have h := HHM.out
                rw [Nat.sub_self, List.take_zero] at h
                rw [HL3.out, h, List.append_nil]; exact HB2.out⟩
              go_wp2_with (fail)
              go_meet
              case rel => exact ⟨rfl, HB3⟩
          case rest =>
            obtain ⟨rfl, HB3⟩ := hcut
            clear HB2 c0 c1 f0 f1 lb2
            go_wp2_with (fail)
            go_loopg [0, 10] (P + 1 - mm) (fun k v0 v10 wr => ∃ i : Nat, mm ≤ i ∧ i + k = P + 1 ∧ v10 = .int .i64 (i : Int) ∧ Aside0 (Bs S1 W0 wr v0 (l3 ++ List.replicate (i - mm) 48)))
            case atStart => exact ⟨mm, Nat.le_refl _, by omega, rfl, ⟨by rw [Nat.sub_self, List.replicate_zero, List.append_nil]; exact HB3.out⟩⟩
            case round =>
              obtain ⟨i, hi1, hi2, rfl, HBI⟩ := hrel
              by_cases hlt : i ≤ P
              · obtain ⟨k', rfl⟩ : ∃ k', gk = k' + 1 := ⟨gk - 1, by omega⟩
                have hle : (i : Int) ≤ (P : Int) := by omega
                have hiw : IntKind.i64.wrap ((i : Int) + 1) = ((i + 1 : Nat) : Int) := by rw [IntWalk.i64_in _ (by omega)]; omega
                have HNI : Aside0 ((l3 ++ List.replicate (i - mm) 48).length ≤ 1030000) := ⟨by have := HN3.out; simp; omega⟩
                go_wp2_with (with_reducible refine bs_byte rfl _ _ rfl S1 W0 _ (l3 ++ List.replicate (i - mm) 48) 48 rfl ?j1 rfl ?j2 ?j3)
                case j1 => exact HBI.out
                case j2 => exact Nat.le_trans HNI.out (by decide)
                case j3 =>
                  intro v4 w4 hb4
                  have HB4 : Aside0 (Bs S1 W0 w4 v4 (l3 ++ List.replicate (i + 1 - mm) 48)) := ⟨by rw [show i + 1 - mm = (i - mm) + 1 by omega, List.replicate_succ', ← List.append_assoc]; first | exact hb4 | (rw [List.append_assoc]; exact hb4)⟩
                  clear hb4
                  go_wp2_with (fail)
                  go_roundg k'
                  case measure => omega
                  case rel => exact ⟨i + 1, by omega, by omega, by simp, HB4⟩
              · have hle : ¬ (i : Int) ≤ (P : Int) := by omega
                have HBZ : Aside0 (Bs S1 W0 wr _ lB) := ⟨by rw [HL3B.out, show P + 1 - mm = i - mm by omega]; exact HBI.out⟩
                go_wp2_with (fail)
                go_meet
                case rel => exact HBZ
      · have HB2 : Aside0 (Bs S1 W0 w1 v1 lB) := ⟨by rw [HLB.out, if_neg hp0, List.append_nil]; exact HB1.out⟩
        go_wp2_with (fail)
        go_meet
        case rel => exact HB2
    case rest =>
      have HBB := hcut
      clear HB0 HB1 HLB
      obtain ⟨lc, hlc⟩ : ∃ lc, lc = lB ++ [ch] := ⟨_, rfl⟩
      have HLC := Aside0.mk hlc
      have HNC : Aside0 (lc.length ≤ 1010011) := ⟨by have := HNB.out; rw [hlc]; simp; omega⟩
      clear hlc
      go_wp2_with (with_reducible refine bs_byte rfl _ _ rfl S1 W0 _ lB ch rfl ?a1 rfl ?a2 ?a3)
      case a1 => exact HBB.out
      case a2 => exact Nat.le_trans HNB.out (by decide)
      case a3 =>
        intro vc w5 hb5
        have HB5 : Aside0 (Bs S1 W0 w5 vc lc) := ⟨by rw [HLC.out]; exact hb5⟩
        clear hb5
        obtain ⟨c0, c1, f0, f1⟩ := blk2 (HB5.out.blk HD.out)
        have lb5 := hp_lt (HB5.out.blk HD.out)
        go_upto_if 67 with (fail)
        obtain ⟨sg, hsg⟩ : ∃ sg : Int, sg = if E < 0 then 45 else 43 := ⟨_, rfl⟩
        obtain ⟨F, hF⟩ : ∃ F : Nat, F = E.natAbs := ⟨_, rfl⟩
        have HTX2 : Aside0 (TX = lc ++ [sg] ++ (if F < 10 then [48] else []) ++ itoaI (F : Int)) := ⟨by rw [HTX.out, hsg, hF, HLC.out]; rfl⟩
        go_cut [9, 12] (fun v9 v12 wx => v9 = .int .u8 sg ∧ v12 = .int .i64 (F : Int) ∧ w5 = wx)
        case first =>
          by_cases hneg : E < 0
          · have hs : sg = 45 := by rw [hsg, if_pos hneg]
            have hFw : IntKind.i64.wrap (-E) = (F : Int) := by rw [IntWalk.i64_in _ (by omega)]; omega
            have hFw2 : -E = (F : Int) := by omega
            subst hs
            clear hsg hF
            go_wp2_with (fail)
            go_meet
            case rel => exact ⟨rfl, by first | rfl | exact congrArg (Value.int .i64) hFw2 | simp [hFw2], rfl⟩
          · have hs : sg = 43 := by rw [hsg, if_neg hneg]
            have HFW2 : Aside0 (E = (F : Int)) := ⟨by omega⟩
            subst hs
            clear hsg hF
            go_wp2_with (fail)
            go_meet
            case rel => exact ⟨rfl, congrArg (Value.int .i64) HFW2.out, rfl⟩
        case rest =>
          obtain ⟨rfl, rfl, rfl⟩ := hcut
          have hF9 : F ≤ 20000000 := by omega
          clear hsg hF c0 c1 f0 f1 lb5
          obtain ⟨ld, hld⟩ : ∃ ld, ld = lc ++ [sg] := ⟨_, rfl⟩
          have HLD := Aside0.mk hld
          have HND : Aside0 (ld.length ≤ 1010012) := ⟨by have := HNC.out; rw [hld]; simp; omega⟩
          rw [← hld] at HTX2
          clear hld
          go_wp2_with (with_reducible refine bs_byte rfl _ _ rfl S1 W0 vc lc sg rfl ?a1 rfl ?a2 ?a3)
          case a1 => exact HB5.out
          case a2 => exact Nat.le_trans HNC.out (by decide)
          case a3 =>
            intro vd w6 hb6
            have HB6 : Aside0 (Bs S1 W0 w6 vd ld) := ⟨by rw [HLD.out]; exact hb6⟩
            clear hb6
            by_cases h10 : F < 10
            · have h10i : (F : Int) < 10 := by omega
              obtain ⟨le, hle⟩ : ∃ le, le = ld ++ [48] := ⟨_, rfl⟩
              have HLE := Aside0.mk hle
              have HNE : Aside0 (le.length ≤ 1010013) := ⟨by have := HND.out; rw [hle]; simp; omega⟩
              have HTX3 : Aside0 (TX = le ++ itoaI (F : Int)) := ⟨by rw [HTX2.out, if_pos h10, hle]⟩
              clear hle
              go_wp2_with (with_reducible refine bs_byte rfl _ _ rfl S1 W0 vd ld 48 rfl ?d1 rfl ?d2 ?d3)
              case d1 => exact HB6.out
              case d2 => exact Nat.le_trans HND.out (by decide)
              case d3 =>
                intro ve w7 hb7
                have HB7 : Aside0 (Bs S1 W0 w7 ve le) := ⟨by rw [HLE.out]; exact hb7⟩
                clear hb7
                have HAI := Aside0.mk (appI_c W0 w7 ve le (F : Int) HB7.out.bu HPW.out (by omega) (Nat.le_trans HNE.out (by decide)))
                go_wp2_with (go_at_call 70; refine HAI.out.mono ?_; rintro e w8 ⟨v8, rfl, hb8⟩; have HB8 := Aside0.mk hb8; clear hb8)
                go_ret
                exact ⟨_, rfl, by rw [HTX3.out]; exact HB8.out⟩
            · have h10i : ¬ (F : Int) < 10 := by omega
              have HTX3 : Aside0 (TX = ld ++ itoaI (F : Int)) := ⟨by rw [HTX2.out, if_neg h10, List.append_nil]⟩
              have HAI := Aside0.mk (appI_c W0 w6 vd ld (F : Int) HB6.out.bu HPW.out (by omega) (Nat.le_trans HND.out (by decide)))
              go_wp2_with (go_at_call 70; refine HAI.out.mono ?_; rintro e w8 ⟨v8, rfl, hb8⟩; have HB8 := Aside0.mk hb8; clear hb8)
              go_ret
              exact ⟨_, rfl, by rw [HTX3.out]; exact HB8.out⟩
end Go.Proofs.YtfnknldbjckgoaaGreatDoor.Sp
end

/-! ## FmtF -/
section
namespace Go.Proofs.YtfnknldbjckgoaaGreatDoor.Sp
open Go.RowKit Go.Proofs.YtfnknldbjckgoaaGreatDoorW.PrintWords Go.Proofs.YtfnknldbjckgoaaGreatDoorW.PrintLast Go.Proofs.YtfnknldbjckgoaaGreatDoorW.PrintMore Go.Proofs.YtfnknldbjckgoaaGreatDoor.Dig
set_option linter.unusedVariables false
set_option linter.unusedSimpArgs false
theorem fracT_succ (d : List Int × Int) (p : Nat) : fracT d (p + 1) = fracT d p ++ [atI d.1 (d.2 + (p : Int))] := by
  unfold fracT
  rw [List.range_succ, List.map_append]
  rfl
theorem fracT_len (d : List Int × Int) (p : Nat) : (fracT d p).length = p := by unfold fracT; simp
theorem wholeT_len (d : List Int × Int) (N : Nat) (h1 : d.1.length ≤ N) (h2 : d.2 ≤ (N : Int)) (hN : 1 ≤ N) : (wholeT d).length ≤ N := by
  unfold wholeT
  split
  · rw [List.length_append, List.length_take, List.length_replicate]; omega
  · simpa using hN
set_option maxHeartbeats 6400000 in
set_option maxRecDepth 100000 in
theorem fmtF_c (S : List (Nat × Obj)) (W0 w : World) (v : Value) (l : List Int) (prec : Int) (g : Nat) (L : List Int) (R : List Value) (e : Int) (hb : Bs S W0 w v l) (hg : (g, .cells (nums .u8 L ++ R).toArray 5 (0, 0)) ∈ S) (hlen : L.length ≤ 10000) (hcm : L.length + R.length ≤ 9223372036854775807) (hl : l.length ≤ 1000000) (hp : -10 ≤ prec ∧ prec ≤ 2000000) (he : -10000000 ≤ e ∧ e ≤ 10000) :
    Calls Tryz.prog 56 #[v, .int .i64 prec, .agg #[.slice (some ⟨g, 0, none⟩) L.length (L.length + R.length), .int .i64 e]] w (BuPost W0 (l ++ fmtFT (L, e) prec)) := by
  obtain ⟨cp, hcp⟩ : ∃ cp, cp = L.length + R.length := ⟨_, rfl⟩
  rw [← hcp]
  have hcl : L.length ≤ cp := by omega
  have HB0' := hb.new (.cells #[.slice (some ⟨g, 0, none⟩) L.length cp, .int .i64 e] 87)
  obtain ⟨S1, hS1⟩ : ∃ S1, S1 = (w.heap.size, Obj.cells #[.slice (some ⟨g, 0, none⟩) L.length cp, .int .i64 e] 87 (0, 0)) :: S := ⟨_, rfl⟩
  rw [← hS1] at HB0'
  have HB0 := Aside0.mk HB0'
  obtain ⟨b, hbb⟩ : ∃ b, b = w.heap.size := ⟨_, rfl⟩
  have HD : Aside0 ((b, Obj.cells #[.slice (some ⟨g, 0, none⟩) L.length cp, .int .i64 e] 87 (0, 0)) ∈ S1) := ⟨by rw [hS1, hbb]; exact List.mem_cons_self⟩
  have HG : Aside0 ((g, Obj.cells (nums .u8 L ++ R).toArray 5 (0, 0)) ∈ S1) := ⟨by rw [hS1]; exact List.mem_cons_of_mem _ hg⟩
  have HDX : Aside0 (∀ W v' l', Bs S1 W0 W v' l' → DX W b g L R e) := ⟨fun W v' l' h => ⟨by have := h.blk HD.out; rw [hcp] at this; exact this, h.blk HG.out, ⟨by omega, hcm⟩⟩⟩
  have HCP := Aside0.mk hcp
  obtain ⟨TX, hTX⟩ : ∃ TX, TX = l ++ fmtFT (L, e) prec := ⟨_, rfl⟩
  rw [← hTX]
  obtain ⟨lW, hlW⟩ : ∃ lW, lW = l ++ wholeT (L, e) := ⟨_, rfl⟩
  have HTX : Aside0 (TX = lW ++ (if 0 < prec then 46 :: fracT (L, e) prec.toNat else [])) := ⟨by
    rw [hTX, hlW]
    unfold fmtFT
    simp only [List.append_assoc]⟩
  have HLW := Aside0.mk hlW
  have HN0 := Aside0.mk hl
  have HNW : Aside0 (lW.length ≤ 1010000) := ⟨by
    have := wholeT_len (L, e) 10000 hlen (by simp only; omega) (by omega)
    rw [hlW, List.length_append]; omega⟩
  have hu := Tryz.underlying87
  clear hb hg hS1 HB0' hTX hlW hl hcp hcm
  go_enter Tryz.func56, Tryz.ntmps56
  go_upto_if 11 with (fail)
  rw [← hbb] at *
  obtain ⟨w0, hw0⟩ : ∃ w0, w0 = w.alloc (.cells #[.slice (some ⟨g, 0, none⟩) L.length cp, .int .i64 e] 87) := ⟨_, rfl⟩
  rw [← hw0] at HB0 ⊢
  clear hw0 hbb
  obtain ⟨c0, c1, f0, f1⟩ := blk2 (HB0.out.blk HD.out)
  have lb0 := hp_lt (HB0.out.blk HD.out)
  go_cut [0] (fun v0 wx => Aside0 (Bs S1 W0 wx v0 lW))
  case first =>
    by_cases he0 : 0 < e
    · obtain ⟨E, rfl⟩ := Int.eq_ofNat_of_zero_le (show 0 ≤ e by omega)
      obtain ⟨mm, hmm⟩ : ∃ mm, mm = min L.length E := ⟨_, rfl⟩
      have hmin : min (L.length : Int) (E : Int) = (mm : Int) := by omega
      obtain ⟨l1, hl1⟩ : ∃ l1, l1 = l ++ L.take mm := ⟨_, rfl⟩
      have HL1 := Aside0.mk hl1
      have hmm1 : mm ≤ E ∧ mm ≤ L.length ∧ mm ≤ cp := by omega
      have HN1 : Aside0 (l1.length ≤ 1010000) := ⟨by have := HN0.out; rw [hl1, List.length_append, List.length_take]; omega⟩
      have HLW2 : Aside0 (lW = l1 ++ List.replicate (E - mm) 48) := ⟨by
        rw [HLW.out, hl1]
        unfold wholeT
        rw [if_pos (show (0 : Int) < ((L, (E : Int)) : List Int × Int).2 from he0)]
        simp only [Int.toNat_natCast, List.append_assoc]
        have e1 : L.take E = L.take mm := by
          by_cases h : L.length ≤ E
          · rw [List.take_of_length_le h, List.take_of_length_le (by omega)]
          · rw [show mm = E by omega]
        rw [e1, show E - L.length = E - mm by omega]⟩
      have HTL : Aside0 ((L.take mm).length = mm) := ⟨by rw [List.length_take]; omega⟩
      clear hmm hl1
      go_wp2_with (with_reducible refine bs_rowN rfl _ _ rfl S1 W0 v l (L.take mm) mm ⟨g, 0, none⟩ cp rfl ?r1 rfl ?r2 ?r3 ?r4 ?r5)
      case r1 => exact HB0.out
      case r2 => exact HTL.out
      case r3 =>
        have := row_part (HB0.out.blk HG.out) 0 mm (by omega)
        rwa [List.drop_zero] at this
      case r4 => have := HN0.out; omega
      case r5 =>
        intro v3 w3 hb3
        have HB3 : Aside0 (Bs S1 W0 w3 v3 l1) := ⟨by rw [HL1.out]; exact hb3⟩
        clear hb3 c0 c1 f0 f1 lb0 HB0
        go_wp2_with (fail)
        go_loopg [0, 7] (E - mm) (fun k v0 v7 wr => ∃ i : Nat, mm ≤ i ∧ i + k = E ∧ v7 = .int .i64 (i : Int) ∧ Aside0 (Bs S1 W0 wr v0 (l1 ++ List.replicate (i - mm) 48)))
        case atStart => exact ⟨mm, Nat.le_refl _, by omega, rfl, ⟨by rw [Nat.sub_self, List.replicate_zero, List.append_nil]; exact HB3.out⟩⟩
        case round =>
          obtain ⟨i, hi1, hi2, rfl, HBI⟩ := hrel
          obtain ⟨c0, c1, f0, f1⟩ := blk2 (HBI.out.blk HD.out)
          have lbi := hp_lt (HBI.out.blk HD.out)
          by_cases hlt : i < E
          · obtain ⟨k', rfl⟩ : ∃ k', gk = k' + 1 := ⟨gk - 1, by omega⟩
            have hle : (i : Int) < (E : Int) := by omega
            have hiw : IntKind.i64.wrap ((i : Int) + 1) = ((i + 1 : Nat) : Int) := by rw [IntWalk.i64_in _ (by omega)]; omega
            have HNI : Aside0 ((l1 ++ List.replicate (i - mm) 48).length ≤ 1030000) := ⟨by have := HN1.out; simp; omega⟩
            go_wp2_with (with_reducible refine bs_byte rfl _ _ rfl S1 W0 _ (l1 ++ List.replicate (i - mm) 48) 48 rfl ?j1 rfl ?j2 ?j3)
            case j1 => exact HBI.out
            case j2 => exact Nat.le_trans HNI.out (by decide)
            case j3 =>
              intro v4 w4 hb4
              have HB4 : Aside0 (Bs S1 W0 w4 v4 (l1 ++ List.replicate (i + 1 - mm) 48)) := ⟨by rw [show i + 1 - mm = (i - mm) + 1 by omega, List.replicate_succ', ← List.append_assoc]; first | exact hb4 | (rw [List.append_assoc]; exact hb4)⟩
              clear hb4
              go_wp2_with (fail)
              go_roundg k'
              case measure => omega
              case rel => exact ⟨i + 1, by omega, by omega, by simp, HB4⟩
          · have hle : ¬ (i : Int) < (E : Int) := by omega
            have HBZ : Aside0 (Bs S1 W0 wr _ lW) := ⟨by rw [HLW2.out, show E - mm = i - mm by omega]; exact HBI.out⟩
            go_wp2_with (fail)
            go_meet
            case rel => exact HBZ
    · have HLW2 : Aside0 (lW = l ++ [48]) := ⟨by rw [HLW.out]; unfold wholeT; rw [if_neg he0]⟩
      go_wp2_with (with_reducible refine bs_byte rfl _ _ rfl S1 W0 v l 48 rfl ?h1 rfl ?h2 ?h3)
      case h1 => exact HB0.out
      case h2 => exact Nat.le_trans HN0.out (by decide)
      case h3 =>
        intro v1 w1 hb1
        have HB1 : Aside0 (Bs S1 W0 w1 v1 lW) := ⟨by rw [HLW2.out]; exact hb1⟩
        clear hb1
        go_wp2_with (fail)
        go_meet
        case rel => exact HB1
  case rest =>
    have HBB := hcut
    clear HB0 HLW hcut c0 c1 f0 f1 lb0
    by_cases hp0 : 0 < prec
    · obtain ⟨P, rfl⟩ := Int.eq_ofNat_of_zero_le (show 0 ≤ prec by omega)
      obtain ⟨l1, hl1⟩ : ∃ l1, l1 = lW ++ [46] := ⟨_, rfl⟩
      have HL1 := Aside0.mk hl1
      have HN1 : Aside0 (l1.length ≤ 1010001) := ⟨by have := HNW.out; rw [hl1]; simp; omega⟩
      have HTX2 : Aside0 (TX = l1 ++ fracT (L, e) P) := ⟨by rw [HTX.out, if_pos hp0, hl1, Int.toNat_natCast]; simp⟩
      clear hl1
      go_wp2_with (with_reducible refine bs_byte rfl _ _ rfl S1 W0 _ lW 46 rfl ?h1 rfl ?h2 ?h3)
      case h1 => exact HBB.out
      case h2 => exact Nat.le_trans HNW.out (by decide)
      case h3 =>
        intro v1 w1 hb1
        have HB1 : Aside0 (Bs S1 W0 w1 v1 l1) := ⟨by rw [HL1.out]; exact hb1⟩
        clear hb1 HBB
        go_wp2_with (fail)
        go_loopg [0, 8] P (fun k v0 v8 wr => ∃ i : Nat, i + k = P ∧ v8 = .int .i64 (i : Int) ∧ Aside0 (Bs S1 W0 wr v0 (l1 ++ fracT (L, e) i)))
        case atStart => exact ⟨0, by omega, rfl, ⟨by have h := HB1.out; rwa [show l1 ++ fracT (L, e) 0 = l1 from List.append_nil _]⟩⟩
        case round =>
          obtain ⟨i, hi2, rfl, HBI⟩ := hrel
          obtain ⟨c0, c1, f0, f1⟩ := blk2 (HBI.out.blk HD.out)
          have lbi := hp_lt (HBI.out.blk HD.out)
          by_cases hlt : i < P
          · obtain ⟨k', rfl⟩ : ∃ k', gk = k' + 1 := ⟨gk - 1, by omega⟩
            have hle : (i : Int) < (P : Int) := by omega
            have hiw : IntKind.i64.wrap ((i : Int) + 1) = ((i + 1 : Nat) : Int) := by rw [IntWalk.i64_in _ (by omega)]; omega
            obtain ⟨ei, hei⟩ : ∃ ei, ei = e + (i : Int) := ⟨_, rfl⟩
            have heiw : IntKind.i64.wrap (e + (i : Int)) = ei := by rw [IntWalk.i64_in _ (by omega), hei]
            have hei2 : e + (i : Int) = ei := hei.symm
            obtain ⟨li, hli⟩ : ∃ li, li = l1 ++ fracT (L, e) i := ⟨_, rfl⟩
            rw [← hli] at HBI
            have HLI := Aside0.mk hli
            have HNI : Aside0 (li.length ≤ 4030000) := ⟨by have := HN1.out; rw [hli, List.length_append, fracT_len]; omega⟩
            have HAT := Aside0.mk (at_c b g L R e ei wr (HDX.out wr _ _ HBI.out))
            obtain ⟨x, hx⟩ : ∃ x, x = atI L ei := ⟨_, rfl⟩
            rw [← hx] at HAT
            have HX : Aside0 (li ++ [x] = l1 ++ fracT (L, e) (i + 1)) := ⟨by rw [hli, hx, hei, fracT_succ, List.append_assoc]⟩
            clear hli hx hei
            go_wp2_with (first | (go_at_call 82; refine HAT.out.mono ?_; rintro e w3 ⟨rfl, hb3⟩; have HB3 := Aside0.mk (HBI.out.below hb3); clear hb3) | (with_reducible refine bs_byte rfl _ _ rfl S1 W0 _ li x rfl ?j1 rfl ?j2 ?j3) | fail)
            case j1 => exact HB3.out
            case j2 => exact Nat.le_trans HNI.out (by decide)
            case j3 =>
              intro v4 w4 hb4
              have HB4 : Aside0 (Bs S1 W0 w4 v4 (l1 ++ fracT (L, e) (i + 1))) := ⟨by rw [← HX.out]; exact hb4⟩
              clear hb4
              go_wp2_with (fail)
              go_roundg k'
              case measure => omega
              case rel => exact ⟨i + 1, by omega, by simp, HB4⟩
          · have hle : ¬ (i : Int) < (P : Int) := by omega
            have hiP : i = P := by omega
            have HBZ : Aside0 (Bs S1 W0 wr _ TX) := ⟨by rw [HTX2.out, ← hiP]; exact HBI.out⟩
            go_wp2_with (fail)
            go_ret
            exact ⟨_, rfl, HBZ.out.bu⟩
    · have HBZ : Aside0 (Bs S1 W0 wc _ TX) := ⟨by rw [HTX.out, if_neg hp0, List.append_nil]; exact HBB.out⟩
      go_wp2_with (fail)
      go_ret
      exact ⟨_, rfl, HBZ.out.bu⟩
end Go.Proofs.YtfnknldbjckgoaaGreatDoor.Sp
end

/-! ## Init -/
section
namespace Go.Proofs.YtfnknldbjckgoaaGreatDoor.Sp
open Go.RowKit Go.Proofs.YtfnknldbjckgoaaGreatDoorW.PrintWords Go.Proofs.YtfnknldbjckgoaaGreatDoorW.PrintLast Go.Proofs.YtfnknldbjckgoaaGreatDoorW.PrintMore Go.Proofs.YtfnknldbjckgoaaGreatDoor.Dig
set_option linter.unusedVariables false
set_option linter.unusedSimpArgs false
/-- What init has reckoned when the figures are to be written: M times 2 to the sh2 (which is ≤ 0). -/
def initM (v : Nat) (sh : Int) : Nat × Nat := if sh < 0 then (v / 2 ^ min (-sh).toNat (tzn v), (-sh).toNat - min (-sh).toNat (tzn v)) else (v * 2 ^ sh.toNat, 0)
theorem initD_M (v : Nat) (sh : Int) (h0 : 0 < v) : initD v sh = (if (initM v sh).2 = 0 then (rz (figs 10 (initM v sh).1), ((figs 10 (initM v sh).1).length : Int)) else shrs 64 (rz (figs 10 (initM v sh).1), ((figs 10 (initM v sh).1).length : Int)) (initM v sh).2) := by
  unfold initD initM
  rw [if_neg (by omega)]
  by_cases h : sh < 0
  · simp only [if_pos h]
  · simp only [if_neg h, if_pos]
theorem same0_c (A : Option Addr) (n c : Nat) (w : World) (h0 : 0 < n) : Calls Tryz.prog 92 #[.slice none 0 0, .slice A n c] w fun e w' => e = .returned (.bool false) ∧ Below w.heap.size w w' := by
  have e1 : ((0 : Int) == (n : Int)) = false := by rw [beq_eq_false_iff_ne]; omega
  have HB : Aside0 (∀ m, Below w.heap.size w (w.drewN m)) := ⟨fun m => ⟨rfl, rfl, rfl, Nat.le_refl _, fun _ _ => rfl⟩⟩
  go_enter Tryz.func92, Tryz.ntmps92
  go_wp2_with (go_quiet (fail))
  go_ret
  exact ⟨rfl, HB.out _⟩
theorem alias0_c (A : Option Addr) (n c : Nat) (w : World) : Calls Tryz.prog 93 #[.slice none 0 0, .slice A n c] w fun e w' => e = .returned (.bool false) ∧ Below w.heap.size w w' := by
  have HB : Aside0 (∀ m, Below w.heap.size w (w.drewN m)) := ⟨fun m => ⟨rfl, rfl, rfl, Nat.le_refl _, fun _ _ => rfl⟩⟩
  go_enter Tryz.func93, Tryz.ntmps93
  go_wp2_with (go_quiet (fail))
  go_ret
  exact ⟨rfl, HB.out _⟩
theorem rsh0_c (A : Option Addr) (n c : Nat) (N : Int) (w : World) (hW : Wd w (.slice A n c) N) (h0 : 0 < n) (hN : N < Lim) :
    Calls Tryz.prog 68 #[.slice none 0 0, .slice A n c, .int .u64 0] w (WdPost w N) := by
  have HW := Aside0.mk hW
  have HS := Aside0.mk (same0_c A n c w h0)
  clear hW
  go_enter Tryz.func68, Tryz.ntmps68
  go_wp2_with (first | (go_at_call 92; refine HS.out.mono ?_; rintro e w1 ⟨rfl, hb1⟩; have HB1 := Aside0.mk hb1; have HAL := Aside0.mk (alias0_c A n c w1); clear hb1) | (go_at_call 93; refine HAL.out.mono ?_; rintro e w2 ⟨rfl, hb2⟩; have HB2 := Aside0.mk (below_step HB1.out hb2); have HST := Aside0.mk (set_nil_wd (.slice A n c) N w2 (HW.out.below HB2.out) hN); clear hb2) | (go_at_call 78; refine HST.out.mono ?_; rintro e w3 ⟨A3, m3, c3, rfl, hw3, hb3⟩; have HW3 := Aside0.mk hw3; have HB3 := Aside0.mk (below_step HB2.out hb3); clear hw3 hb3) | fail)
  go_ret
  exact ⟨_, _, _, rfl, HW3.out, HB3.out⟩
theorem tzn_tz (N : Nat) (h : 0 < N) : Tz (N : Int) (tzn N) := by
  obtain ⟨m, n, e⟩ := odd_part N h
  refine ⟨(m : Int), ?_⟩
  rw [e, tzn_eq, Int.natCast_mul, Int.natCast_pow, Int.mul_comm]
  simp
theorem tz_ltw {L : List Int} {N t : Nat} (hok : okd BW L) (hN : ev BW L = (N : Int)) (h0 : 0 < N) (ht : Tz (N : Int) t) : t < 64 * L.length := by
  obtain ⟨m, e⟩ := ht
  have h1 := ev_lt hok BW_pos
  rw [hN, BW_two, ← Int.pow_mul] at h1
  have hp : (0 : Int) < 2 ^ t := Int.pow_pos (by omega)
  have hm : 0 < 2 * m + 1 := Int.pos_of_mul_pos_right (by rw [← e]; omega) hp
  have h2 : (2 : Int) ^ t * 1 ≤ 2 ^ t * (2 * m + 1) := Int.mul_le_mul_of_nonneg_left (by omega) (Int.le_of_lt hp)
  rw [← e, Int.mul_one] at h2
  have h3 : (2 : Int) ^ t < 2 ^ (64 * L.length) := Int.lt_of_le_of_lt h2 h1
  exact (Nat.pow_lt_pow_iff_right (a := 2) (by omega)).1 (by exact_mod_cast h3)
theorem initM_pos (v : Nat) (sh : Int) (h0 : 0 < v) : 0 < (initM v sh).1 := by
  unfold initM
  by_cases hn : sh < 0
  · rw [if_pos hn]
    show 0 < v / 2 ^ min (-sh).toNat (tzn v)
    obtain ⟨s, hs'⟩ : ∃ s, s = min (-sh).toNat (tzn v) := ⟨_, rfl⟩
    rw [← hs']
    have hsz : s ≤ tzn v := by omega
    obtain ⟨m, n, e⟩ := odd_part v h0
    rw [e, tzn_eq] at hsz
    rw [e]
    refine Nat.div_pos ?_ (Nat.two_pow_pos s)
    have h3 : 2 ^ s ≤ 2 ^ n := Nat.pow_le_pow_right (by omega) hsz
    have h4 : 2 ^ n ≤ (2 * m + 1) * 2 ^ n := Nat.le_mul_of_pos_left _ (by omega)
    omega
  · rw [if_neg hn]
    exact Nat.mul_pos h0 (Nat.two_pow_pos _)
theorem shrs_last (f : Nat) (d : List Int × Int) (k : Nat) (h : k ≤ 60) : shrs f d k = rshD d k := by
  cases f with
  | zero => rfl
  | succ f => rw [shrs, if_neg (by omega)]
theorem shrs_more (f : Nat) (d : List Int × Int) (k : Nat) (h : 60 < k) : shrs (f + 1) d k = shrs f (rshD d 60) (k - 60) := by
  rw [shrs, if_pos h]
/-- What the first append onto a decimal's empty row leaves. -/
theorem first_world (w : World) (ty : TypeId) (m : List Int) (n : Nat) (ad : Addr) (c : Nat) (hn : m.length = n) (hc : ∀ j, j < m.length → w.cell? (ad.add j) = some (.int .u8 (m.getD j 0))) (h0 : 0 < n) (hl : n ≤ 90000000) :
    ∃ R' w', (Builtin.append_ #[43, 43] ty #[.slice none 0 0, .slice (some ad) n c]).run Tryz.prog w = .ok (.slice (some ⟨w.heap.size, 0, none⟩) n (n + R'.length)) w' ∧ hp w' w.heap.size = some (.cells (nums .u8 m ++ R').toArray 5 (0, 0)) ∧ n + R'.length ≤ 9223372036854775807 ∧ Below w.heap.size w w' := by
  obtain ⟨i, hi, hz, hsz, hby⟩ := info_parts infoU8
  have hnews : ∀ j u, (nums .u8 m)[j]? = some u → w.cell? (ad.add j) = some u := by
    intro j u hu
    rw [nums, List.getElem?_map] at hu
    cases e : m[j]? with
    | none => rw [e] at hu; cases hu
    | some q =>
      rw [e] at hu
      have hj := (List.getElem?_eq_some_iff.1 e).1
      have h2 := hc j hj
      rw [List.getD_eq_getElem?_getD, e] at h2
      rw [h2]
      exact hu
  have hone : ∀ u ∈ nums .u8 m, u.oneCell' = true := by
    intro u hu
    simp [nums] at hu
    obtain ⟨q, _, rfl⟩ := hu
    rfl
  have hown : w.ownsRow w.heap.size 5 1 (.slice none 0 0) 0 [] := ⟨rfl, .inl ⟨rfl, rfl⟩⟩
  have hmx : 0 + n ≤ maxLen := by unfold maxLen; omega
  have hlen : (nums .u8 m).length = n * 1 := by simp [nums, hn]
  obtain ⟨v', w', hr, h2, h3, _⟩ := run_append_own (P := Tryz.prog) w w.heap.size 43 ty 5 i (.int .u8 0) 1 1 Tryz.underlying43 hi hz hsz hby rfl (by decide) _ 0 _ hown ad n c (nums .u8 m) hlen hnews hone hmx (by omega) (Nat.le_refl _)
  obtain ⟨v2, w2, hr2, hwh⟩ := append_where (P := Tryz.prog) w w.heap.size 43 ty 5 i (.int .u8 0) 1 1 Tryz.underlying43 hi hz hsz hby rfl (by decide) _ 0 _ hown ad n c (nums .u8 m) hlen hnews hone hmx (by omega)
  rw [hr] at hr2
  injection hr2 with e1 e2
  subst e1 e2
  have hk : Below w.heap.size w w' := ⟨h3.os, h3.tape, h3.output, h3.size, fun i hi => h3.block i hi (fun e => by simp [Value.ownBlock] at e)⟩
  rcases h2.2 with ⟨rfl, h4⟩ | ⟨g', cap, cur, rfl, hb, h4, h5, h6, h7, h8⟩
  · rw [Nat.zero_add] at h4
    omega
  · have hg : g' = w.heap.size := by
      rcases hwh with hwh | hwh
      · simp [Value.ownBlock] at hwh
      · simpa [Value.ownBlock] using hwh
    subst hg
    have hcur : cur = (nums .u8 m ++ cur.toList.drop n).toArray := by
      apply Array.toList_inj.1
      have h9 : cur.toList.take n = nums .u8 m := by simpa using h8
      rw [← h9]
      simp
    have hcap : cap = n + (cur.toList.drop n).length := by
      have h10 : cur.toList.length = cap := by simpa using h7
      rw [List.length_drop, h10]; omega
    refine ⟨cur.toList.drop n, w', ?_, by rw [← hcur]; exact h4, by rw [← hcap]; unfold maxLen at h6; omega, hk⟩
    rw [hr, Nat.zero_add, ← hcap]
theorem step_first {ops : Array Oper} {o : Oper} {a : Act} {w : World} {K : Act → World → Prop} {Q : Exit → Act → World → Prop} {F : Prop} (hgd : o.guard = none) (sl x : Operand)
    (ho : o.op = .call { callee := .builtin .append, args := #[sl, x], argTypes := #[43, 43] })
    (m : List Int) (n : Nat) (ad : Addr) (c : Nat) (hs : a.eval sl = .slice none 0 0) (hx : a.eval x = .slice (some ad) n c) (hn : m.length = n) (hc : ∀ j, j < m.length → w.cell? (ad.add j) = some (.int .u8 (m.getD j 0))) (h0 : 0 < n) (hl : n ≤ 90000000)
    (k : ∀ R' w', Aside0 (hp w' w.heap.size = some (.cells (nums .u8 m ++ R').toArray 5 (0, 0)) ∧ n + R'.length ≤ 9223372036854775807) → Aside0 (Below w.heap.size w w') → K (a.put o.dst (.slice (some ⟨w.heap.size, 0, none⟩) n (n + R'.length))) w') :
    if Region.wanted o (yielded ops a.tmps) = true then Oper.wp Tryz.prog o a w K Q else F := by
  have hw : Region.wanted o (yielded ops a.tmps) = true := by simp [Region.wanted, hgd]
  obtain ⟨R', w', hr, h1, h2, h3⟩ := first_world w o.type m n ad c hn hc h0 hl
  rw [if_pos hw]
  unfold Oper.wp
  simp only [execOp, ho, resolve, invoke, builtin, Sem.run_bind, Sem.run_pure, Result.andThen_ok, List.map_toArray, List.map_cons, List.map_nil, hs, hx, hr]
  exact k R' w' ⟨h1, h2⟩ ⟨h3⟩
/-- The decimal that holds nothing. -/
def DNil (w : World) (b : Nat) : Prop := hp w b = some (.cells #[.slice none 0 0, .int .i64 0] 87 (0, 0))
set_option maxHeartbeats 12800000 in
set_option maxRecDepth 100000 in
theorem init_c (b N : Nat) (sh : Int) (mx c : Nat) (L : List Int) (w : World) (hd : DNil w b) (hC : Kd.C (Kd.int .u64) w (some ⟨mx, 0, none⟩) L.length L) (hlc : L.length ≤ c) (hcn : Cn BW L) (hN : ev BW L = (N : Int)) (hN0 : 0 < N) (hl : L.length ≤ 8) (hmx : mx < w.heap.size) (hf : Fit (initM N sh).1) (hT : Tb w) (hL : Leaf w) (hs : -3000 ≤ sh ∧ sh ≤ 1000) :
    Calls Tryz.prog 51 #[.pointer (some ⟨b, 0, none⟩), .slice (some ⟨mx, 0, none⟩) L.length c, .int .i64 sh] w fun e w' => e = .returned (.tuple #[]) ∧ Kept (On b) w w' ∧ ∃ g R, w.heap.size ≤ g ∧ DX w' b g (initD N sh).1 R (initD N sh).2 := by
  have hl0 : 0 < L.length := by
    rcases Nat.eq_zero_or_pos L.length with h | h
    · rw [List.eq_nil_of_length_eq_zero h, ev_nil] at hN; omega
    · exact h
  have HN := Aside0.mk hN
  have HC := Aside0.mk hC
  have HCN := Aside0.mk hcn
  have HW : Aside0 (Wd w (.slice (some ⟨mx, 0, none⟩) L.length c) (N : Int)) := ⟨⟨_, c, L, rfl, hlc, hC, hcn, hN⟩⟩
  obtain ⟨M, hM⟩ : ∃ M, M = (initM N sh).1 := ⟨_, rfl⟩
  obtain ⟨k, hk⟩ : ∃ k, k = (initM N sh).2 := ⟨_, rfl⟩
  have HM := Aside0.mk hM
  have HK := Aside0.mk hk
  obtain ⟨d0, d1, g0, g1⟩ := blk2 hd
  have lb := hp_lt hd
  have HD := Aside0.mk hd
  have HM0 : Aside0 (0 < M) := ⟨by rw [hM]; exact initM_pos N sh hN0⟩
  have HFT : Aside0 (Fit M) := ⟨by rw [hM]; exact hf⟩
  have HLF := Aside0.mk hL
  have HK3 : Aside0 (k ≤ 3000) := ⟨by rw [hk]; unfold initM; split <;> simp only <;> omega⟩
  have hlb : ((L.length : Int) == 0) = false := by rw [beq_eq_false_iff_ne]; omega
  clear hd hC hcn hN hM hk hf hL
  go_enter Tryz.func51, Tryz.ntmps51
  go_upto_if 25 with (fail)
  go_cut [1, 2] (fun v1 v2 wx => ∃ y : Int, v2 = .int .i64 y ∧ ((sh < 0 ∧ Aside0 (Wd wx v1 (M : Int)) ∧ y = -(k : Int) ∧ Aside0 (Below w.heap.size w wx)) ∨ (¬ sh < 0 ∧ v1 = .slice (some ⟨mx, 0, none⟩) L.length c ∧ y = sh ∧ wx = w)))
  case first =>
    by_cases hneg : sh < 0
    · obtain ⟨z, hz⟩ : ∃ z : Nat, z = (-sh).toNat := ⟨_, rfl⟩
      obtain ⟨t, ht⟩ : ∃ t : Nat, t = tzn N := ⟨_, rfl⟩
      obtain ⟨s, hs9⟩ : ∃ s : Nat, s = min z t := ⟨_, rfl⟩
      have HME : Aside0 (M = N / 2 ^ s ∧ k = z - s) := ⟨by rw [HM.out, HK.out]; unfold initM; rw [if_pos hneg]; rw [hs9, hz, ht]; exact ⟨rfl, rfl⟩⟩
      have HTZ := Aside0.mk (tzb_c (some ⟨mx, 0, none⟩) c L t w HC.out hlc (by omega) HCN.out.ok (by rw [HN.out]; omega) (by rw [HN.out, ht]; exact tzn_tz N hN0) hT)
      have htl : t < 64 * L.length := tz_ltw HCN.out.ok HN.out hN0 (by rw [ht]; exact tzn_tz N hN0)
      have hzi : -sh = (z : Int) := by omega
      have hzw : IntKind.i64.wrap (z : Int) = (z : Int) := IntWalk.i64_in _ (by omega)
      have hzu : IntKind.u64.wrap (z : Int) = (z : Int) := by rw [IntKind.wrap_u64]; omega
      have hsw : IntKind.i64.wrap (s : Int) = (s : Int) := IntWalk.i64_in _ (by omega)
      obtain ⟨y, hy⟩ : ∃ y : Int, y = -(k : Int) := ⟨_, rfl⟩
      have hsy : sh + (s : Int) = y := by have := HME.out.2; omega
      have hyw : IntKind.i64.wrap y = y := IntWalk.i64_in _ (by have := HME.out.2; omega)
      have hy0 : y ≤ 0 := by omega
      have HR : Aside0 (Calls Tryz.prog 68 #[.slice none 0 0, .slice (some ⟨mx, 0, none⟩) L.length c, .int .u64 (s : Int)] w (WdPost w (M : Int))) := ⟨by
        rw [HME.out.1]
        by_cases hs0 : s = 0
        · rw [hs0, Nat.pow_zero, Nat.div_one]
          exact rsh0_c _ _ _ _ w HW.out hl0 (by rw [← HN.out]; exact words_Lim HCN.out.ok (by omega))
        · have := rsh_nil_c mx c s L w HC.out hlc HCN.out.ok (by omega) (by omega) (by omega) hmx
          rw [HN.out] at this
          rw [show ((N / 2 ^ s : Nat) : Int) = (N : Int) / 2 ^ s by simp]
          exact this⟩
      have HY := Aside0.mk hy
      have hd1 : decide (sh < 0) = true := decide_eq_true hneg
      have hd2 : decide (0 < y) = false := decide_eq_false (by omega)
      by_cases hge : t ≤ z
      · have hs2 : s = t := by omega
        subst hs2
        have hge2 : decide ((s : Int) ≤ (z : Int)) = true := decide_eq_true (by omega)
        clear hs9 ht hz hy
        go_wp2_with (first | (go_at_call 75; refine HTZ.out.mono ?_; rintro e w1 ⟨rfl, rfl⟩) | (go_at_call 68; refine HR.out.mono ?_; rintro e w2 ⟨A2, m2, c2, rfl, hw2, hb2⟩; have HW2 := Aside0.mk hw2; have HB2 := Aside0.mk hb2; clear hw2 hb2) | fail)
        go_meet
        case rel => exact ⟨y, rfl, .inl ⟨hneg, HW2, HY.out, HB2⟩⟩
      · have hs2 : s = z := by omega
        subst hs2
        have hge2 : decide ((t : Int) ≤ (s : Int)) = false := decide_eq_false (by omega)
        clear hs9 ht hz hy
        go_wp2_with (first | (go_at_call 75; refine HTZ.out.mono ?_; rintro e w1 ⟨rfl, rfl⟩) | (go_at_call 68; refine HR.out.mono ?_; rintro e w2 ⟨A2, m2, c2, rfl, hw2, hb2⟩; have HW2 := Aside0.mk hw2; have HB2 := Aside0.mk hb2; clear hw2 hb2) | fail)
        go_meet
        case rel => exact ⟨y, rfl, .inl ⟨hneg, HW2, HY.out, HB2⟩⟩
    · have hd1 : decide (sh < 0) = false := decide_eq_false hneg
      go_wp2_with (fail)
      go_meet
      case rel => exact ⟨sh, rfl, .inr ⟨hneg, rfl, rfl, rfl⟩⟩
  case rest =>
    obtain ⟨y, rfl, HY⟩ := hcut
    go_upto_if 43 with (fail)
    go_cut [1, 2] (fun v1 v2 wx => v2 = .int .i64 (-(k : Int)) ∧ Aside0 (Wd wx v1 (M : Int)) ∧ Aside0 (Below w.heap.size w wx))
    case first =>
      rcases HY with ⟨hneg, HW2, hy, HB2⟩ | ⟨hneg, rfl, rfl, rfl⟩
      · have hd2 : decide (0 < y) = false := decide_eq_false (by omega)
        go_wp2_with (fail)
        go_meet
        case rel => exact ⟨by rw [hy], HW2, HB2⟩
      · by_cases hp : 0 < y
        · obtain ⟨t, ht⟩ : ∃ t : Nat, t = y.toNat := ⟨_, rfl⟩
          have hty : y = (t : Int) := by omega
          subst hty
          have hd2 : decide (0 < (t : Int)) = true := decide_eq_true hp
          have htw : IntKind.u64.wrap (t : Int) = (t : Int) := by rw [IntKind.wrap_u64]; omega
          have HME : Aside0 (M = N * 2 ^ t ∧ k = 0) := ⟨by rw [HM.out, HK.out]; unfold initM; rw [if_neg hneg, ← ht]; exact ⟨rfl, rfl⟩⟩
          have hrd : Rd wc (fun _ => False) (.slice none 0 0) (.slice (some ⟨mx, 0, none⟩) L.length c) L := ⟨mx, 0, c, rfl, hlc, fun j hj => by have := C_at HC.out j hj; rwa [add_spot] at this, HCN.out.ok, hmx, .inl (fun h => h)⟩
          have HSH := Aside0.mk (lsh_c (.slice none 0 0) (.slice (some ⟨mx, 0, none⟩) L.length c) (fun _ => False) L t wc (.inl rfl) hrd hl0 (by omega) (by omega) (by omega))
          clear hrd ht
          go_wp2_with (go_at_call 67; refine HSH.out.mono ?_; rintro e w1 ⟨q, rfl, hn, hkk⟩; have HQ := Aside0.mk hn; have HKK := Aside0.mk hkk; clear hn hkk)
          go_meet
          case rel =>
            refine ⟨by rw [HME.out.2]; rfl, ⟨?_⟩, ⟨HKK.out.below (fun i h => h.elim) (Nat.le_refl _)⟩⟩
            have h := HQ.out.wd
            rw [HN.out] at h
            rw [HME.out.1, Int.natCast_mul, Int.natCast_pow]
            exact h
        · have hy0 : y = 0 := by omega
          subst hy0
          have HME : Aside0 (M = N ∧ k = 0) := ⟨by rw [HM.out, HK.out]; unfold initM; rw [if_neg hneg]; simp⟩
          have hd2 : decide ((0 : Int) < 0) = false := rfl
          go_wp2_with (fail)
          go_meet
          case rel => exact ⟨by rw [HME.out.2]; rfl, ⟨by rw [HME.out.1]; exact HW.out⟩, ⟨Below.refl _ _⟩⟩
    case rest =>
      obtain ⟨rfl, HW3, HB3⟩ := hcut
      clear HY
      clear HC HCN HN HW d0 d1 g0 g1
      obtain ⟨l, hl9⟩ : ∃ l, l = figs 10 M := ⟨_, rfl⟩
      have HU := Aside0.mk (utoa_c _ M wc HW3.out HM0.out HFT.out (HLF.out.below HB3.out))
      rw [← hl9] at HU
      have HLL : Aside0 (l.length ≤ 155) := ⟨by rw [hl9]; exact fit_figs HFT.out⟩
      have HDL : Aside0 (Dc (rz l)) := ⟨by rw [hl9]; exact Dc.of_figs HM0.out⟩
      have HLM := Aside0.mk hl9
      have HDW := Aside0.mk (hp_below HD.out HB3.out)
      obtain ⟨d0, d1, g0, g1⟩ := blk2 HDW.out
      have lb3 := hp_lt HDW.out
      clear hl9
      go_wp2_with (go_at_call 69; refine HU.out.mono ?_; rintro e w1 ⟨gu, ou, Zu, cu, rfl, hbr, hdr, hoz, hlcu, hgu, hbl⟩; have HBR := Aside0.mk hbr; have HDR := Aside0.mk hdr; have HOZ := Aside0.mk hoz; have HB4 := Aside0.mk (below_step HB3.out hbl); have HD4 := Aside0.mk (hp_below HDW.out hbl); clear d0 d1 g0 g1; obtain ⟨d0, d1, g0, g1⟩ := blk2 HD4.out; have lb4 := hp_lt HD4.out; clear hbr hdr hoz hbl)
      have hgb : b ≠ gu := by omega
      have HC2 : Aside0 (∀ j, j < l.length → (w1.setCell ⟨b, 1, none⟩ (.int .i64 (l.length : Int))).cell? ⟨gu, ou + j, none⟩ = some (.int .u8 (l.getD j 0))) := ⟨fun j hj => by
        have h1 : Br (w1.setCell ⟨b, 1, none⟩ (.int .i64 (l.length : Int))) gu Zu := (hp_other _ _ _ _ hgb).trans HBR.out
        have := up_cells h1 HDR.out HOZ.out j hj
        rwa [add_spot] at this⟩
      have HB5 : Aside0 (hp (w1.setCell ⟨b, 1, none⟩ (.int .i64 (l.length : Int))) b = some (.cells #[.slice none 0 0, .int .i64 (l.length : Int)] 87 (0, 0))) := ⟨by rw [hp_here _ _ _ _ _ rfl, HD4.out]; rfl⟩
      have HK5 : Aside0 (Kept (On b) w (w1.setCell ⟨b, 1, none⟩ (.int .i64 (l.length : Int)))) := ⟨(Kept.of_below (S := On b) HB4.out).setCell (p := ⟨b, 1, none⟩) (.inl rfl) _⟩
      obtain ⟨w2, hw2⟩ : ∃ w2, w2 = w1.setCell ⟨b, 1, none⟩ (.int .i64 (l.length : Int)) := ⟨_, rfl⟩
      rw [← hw2] at HC2 HB5 HK5 ⊢
      clear hw2 d0 d1 g0 g1 HBR HDR HOZ HB4 HD4
      go_loop [9] (fun v => ∃ n : Nat, n ≤ l.length ∧ v = .int .i64 (n : Int) ∧ Aside0 (∀ j : Nat, n ≤ j → j < l.length → l.getD j 0 = (48 : Int))) (fun v => (intOf v).toNat)
      case atStart => exact ⟨l.length, Nat.le_refl _, rfl, ⟨fun j h1 h2 => by omega⟩⟩
      case round =>
        obtain ⟨n, hn, rfl, HZ⟩ := hrel
        by_cases h0 : n = 0
        · subst h0
          exact absurd (rz_of l 0 (Nat.zero_le _) HZ.out (.inl rfl)).symm (by rw [List.take_zero]; exact HDL.out.ne)
        · obtain ⟨q, hqn⟩ : ∃ q, n = q + 1 := ⟨n - 1, by omega⟩
          have hnq : (n : Int) - 1 = (q : Int) := by omega
          have hqw : IntKind.i64.wrap (q : Int) = (q : Int) := IntWalk.i64_in _ (by have := HLL.out; omega)
          have hn0i : (0 : Int) < (n : Int) := by omega
          have hn0n : 0 < n := by omega
          have HQN := Aside0.mk hqn
          have hc := HC2.out q (by omega)
          have hq155 : q < 155 := by have := HLL.out; omega
          obtain ⟨x, hx⟩ : ∃ x, x = l.getD q 0 := ⟨_, rfl⟩
          rw [← hx] at hc
          have HX := Aside0.mk hx
          clear hx
          by_cases h48 : x = 48
          · subst h48
            clear hqn
            go_wp2_with (fail)
            go_round
            case rel => exact ⟨q, by have := HQN.out; omega, by first | rfl | simp, ⟨fun j h1 h2 => by
              rcases Nat.lt_or_ge q j with h3 | h3
              · exact HZ.out j (by have := HQN.out; omega) h2
              · obtain rfl : j = q := by omega
                exact HX.out.symm⟩⟩
            case measure => have := HQN.out; simp [intOf]; omega
          · have HRZ := Aside0.mk (rz_of l n hn HZ.out (.inr (by rw [hqn, Nat.add_sub_cancel, ← HX.out]; exact h48)))
            have hxb : (x == 48) = false := by rw [beq_eq_false_iff_ne]; exact h48
            have HRL : Aside0 ((rz l).length = n) := ⟨by rw [← HRZ.out, List.length_take]; omega⟩
            have HRC : Aside0 (∀ j, j < (rz l).length → w2.cell? ((⟨gu, ou, none⟩ : Addr).add j) = some (.int .u8 ((rz l).getD j 0))) := ⟨fun j hj => by
              rw [HRL.out] at hj
              rw [add_spot, HC2.out j (by omega), ← HRZ.out, List.getD_eq_getElem?_getD, List.getD_eq_getElem?_getD, List.getElem?_take, if_pos hj]⟩
            obtain ⟨d0, d1, g0, g1⟩ := blk2 HB5.out
            have lb5 := hp_lt HB5.out
            have hqb : n ≤ 90000000 := by have := HLL.out; omega
            have hqc : n ≤ cu := by omega
            have HB52 : Aside0 (hp w2.drew b = some (.cells #[.slice none 0 0, .int .i64 (l.length : Int)] 87 (0, 0))) := ⟨HB5.out⟩
            have HK52 : Aside0 (Kept (On b) w w2.drew) := ⟨HK5.out.drew⟩
            have HRC2 : Aside0 (∀ j, j < (rz l).length → w2.drew.cell? ((⟨gu, ou, none⟩ : Addr).add j) = some (.int .u8 ((rz l).getD j 0))) := ⟨HRC.out⟩
            have hbw : b ≠ w2.heap.size := by omega
            have HBW := Aside0.mk hbw
            clear hbw
            clear hqn
            go_wp2_with (fail)
            clear HRC HB5 HK5
            refine start_ (n := 13) (S := fun w' => w'.cell? ⟨b, 0, none⟩ = some (.slice none 0 0)) (ds := [12]) #[false, false, false, false, false, false, false, false, false, false, false, false, false] (by kernel_rfl) rfl rfl ((by go_simp)) (fun hHeld => ?_)
            refine pure_ (i := 0) (N := some 68) (v := ?_) (a' := ?_) #[true, false, false, false, false, false, false, false, false, false, false, false, false] rfl rfl (by kernel_rfl) (fun _ _ _ h => h) (Or.inl ⟨by rfl, ?_⟩) ?_ ?_
            rotate_left
            · intro w'
              go_simp
              with_reducible rfl
            rotate_left
            · simp only [Act.put, List.setIfInBounds_toArray, List.set_cons_zero, List.set_cons_succ, i64_w, i32_w]
              rfl
            refine pure_ (i := 1) (N := some 69) (v := ?_) (a' := ?_) #[true, true, false, false, false, false, false, false, false, false, false, false, false] rfl rfl (by kernel_rfl) (fun _ _ _ h => h) (Or.inl ⟨by rfl, ?_⟩) ?_ ?_
            rotate_left
            · intro w'
              go_simp
              with_reducible rfl
            rotate_left
            · simp only [Act.put, List.setIfInBounds_toArray, List.set_cons_zero, List.set_cons_succ, i64_w, i32_w]
              rfl
            refine pure_ (i := 2) (N := some 70) (v := ?_) (a' := ?_) #[true, true, true, false, false, false, false, false, false, false, false, false, false] rfl rfl (by kernel_rfl) (fun _ _ _ h => h) (Or.inl ⟨by rfl, ?_⟩) ?_ ?_
            rotate_left
            · intro w'
              go_simp
              with_reducible rfl
            rotate_left
            · simp only [Act.put, List.setIfInBounds_toArray, List.set_cons_zero, List.set_cons_succ, i64_w, i32_w]
              rfl
            refine pure_ (i := 3) (N := some 71) (v := ?_) (a' := ?_) #[true, true, true, true, false, false, false, false, false, false, false, false, false] rfl rfl (by kernel_rfl) (fun _ _ _ h => h) (Or.inl ⟨by rfl, ?_⟩) ?_ ?_
            rotate_left
            · intro w'
              go_simp
              with_reducible rfl
            rotate_left
            · simp only [Act.put, List.setIfInBounds_toArray, List.set_cons_zero, List.set_cons_succ, i64_w, i32_w]
              rfl
            refine pure_ (i := 6) (N := some 74) (v := ?_) (a' := ?_) #[true, true, true, true, false, false, true, false, false, false, false, false, false] rfl rfl (by kernel_rfl) (fun _ _ _ h => h) (Or.inl ⟨by rfl, ?_⟩) ?_ ?_
            rotate_left
            · intro w'
              go_simp
              with_reducible rfl
            rotate_left
            · simp only [Act.put, List.setIfInBounds_toArray, List.set_cons_zero, List.set_cons_succ, i64_w, i32_w]
              rfl
            refine pure_ (i := 7) (N := some 75) (v := ?_) (a' := ?_) #[true, true, true, true, false, false, true, true, false, false, false, false, false] rfl rfl (by kernel_rfl) (fun _ _ _ h => h) (Or.inl ⟨by rfl, ?_⟩) ?_ ?_
            rotate_left
            · intro w'
              go_simp
              with_reducible rfl
            rotate_left
            · simp only [Act.put, List.setIfInBounds_toArray, List.set_cons_zero, List.set_cons_succ, i64_w, i32_w]
              rfl
            refine pure_ (i := 8) (N := some 76) (v := ?_) (a' := ?_) #[true, true, true, true, false, false, true, true, true, false, false, false, false] rfl rfl (by kernel_rfl) (fun _ _ _ h => h) (Or.inl ⟨by rfl, ?_⟩) ?_ ?_
            rotate_left
            · intro w'
              go_simp
              with_reducible rfl
            rotate_left
            · simp only [Act.put, List.setIfInBounds_toArray, List.set_cons_zero, List.set_cons_succ, i64_w, i32_w]
              rfl
            refine take_ (i := 4) (N := some 72) (v := ?_) (a' := ?_) #[true, true, true, true, true, false, true, true, true, false, false, false, false] rfl rfl (by kernel_rfl) (fun _ _ _ h => h) (Or.inl ⟨by rfl, ?_⟩) hHeld ?_ ?_
            rotate_left
            · intro w' s0
              go_simp
              with_reducible rfl
            rotate_left
            · simp only [Act.put, List.setIfInBounds_toArray, List.set_cons_zero, List.set_cons_succ, i64_w, i32_w]
              rfl
            refine pure_ (i := 5) (N := some 73) (v := ?_) (a' := ?_) #[true, true, true, true, true, true, true, true, true, false, false, false, false] rfl rfl (by kernel_rfl) (fun _ _ _ h => h) (Or.inl ⟨by rfl, ?_⟩) ?_ ?_
            rotate_left
            · intro w'
              go_simp
              with_reducible rfl
            rotate_left
            · simp only [Act.put, List.setIfInBounds_toArray, List.set_cons_zero, List.set_cons_succ, i64_w, i32_w]
              rfl
            refine one_ (i := 9) (N := some 77) #[true, true, true, true, true, true, true, true, true, true, false, false, false] rfl rfl (by kernel_rfl) (by decide) (fun K hK => ?_)
            refine step_first rfl (.tmp 73) (.tmp 76) rfl (rz l) n ⟨gu, ou, none⟩ cu rfl rfl HRL.out HRC2.out hn0n hqb ?_
            intro R3 w3 HR3 HBL3
            have HB6 := Aside0.mk (hp_below HB52.out HBL3.out)
            clear d0 d1 g0 g1
            obtain ⟨q0, q1, g0, g1⟩ := blk2 HB6.out
            have lb6 := hp_lt HB6.out
            refine hK.out _ _ (q0) (fun hHeld => ?_)
            clear hK K
            refine norm_ (a' := ?_) ?_ ?_
            rotate_left
            · show Act.put _ (some 77) _ = _
              simp only [Act.put, List.setIfInBounds_toArray, List.set_cons_zero, List.set_cons_succ, i64_w, i32_w]
              rfl
            refine pure_ (i := 10) (N := some 78) (v := ?_) (a' := ?_) #[true, true, true, true, true, true, true, true, true, true, true, false, false] rfl rfl (by kernel_rfl) (fun _ _ _ h => h) (Or.inl ⟨by rfl, ?_⟩) ?_ ?_
            rotate_left
            · intro w'
              go_simp
              with_reducible rfl
            rotate_left
            · simp only [Act.put, List.setIfInBounds_toArray, List.set_cons_zero, List.set_cons_succ, i64_w, i32_w]
              rfl
            refine pure_ (i := 11) (N := some 79) (v := ?_) (a' := ?_) #[true, true, true, true, true, true, true, true, true, true, true, true, false] rfl rfl (by kernel_rfl) (fun _ _ _ h => h) (Or.inl ⟨by rfl, ?_⟩) ?_ ?_
            rotate_left
            · intro w'
              go_simp
              with_reducible rfl
            rotate_left
            · simp only [Act.put, List.setIfInBounds_toArray, List.set_cons_zero, List.set_cons_succ, i64_w, i32_w]
              rfl
            refine last_ (i := 12) (N := none) #[true, true, true, true, true, true, true, true, true, true, true, true, true] rfl rfl (by kernel_rfl) (by decide) (fun K hK => ?_)
            refine skip_ (w1 := ?_) (by rfl) rfl ?_ ?_
            rotate_left
            · go_simp
              rfl
            refine hK.out _ _ ?_
            clear hK K
            refine done_ (by kernel_rfl) ?_
            have HDX : Aside0 (DX (w3.setCell ⟨b, 0, none⟩ (.slice (some ⟨w2.heap.size, 0, none⟩) n (n + R3.length))) b w2.heap.size (rz l) R3 (l.length : Int)) := ⟨⟨by rw [hp_here _ _ _ _ _ rfl, HB6.out, HRL.out]; rfl, by rw [hp_other _ _ _ _ HBW.out]; exact HR3.out.1, by rw [HRL.out]; exact ⟨by omega, HR3.out.2⟩⟩⟩
            have HKX : Aside0 (Kept (On b) w (w3.setCell ⟨b, 0, none⟩ (.slice (some ⟨w2.heap.size, 0, none⟩) n (n + R3.length)))) := ⟨(HK52.out.trans (T := fun _ => False) (Kept.of_below HBL3.out) (fun _ _ h => h.elim)).setCell (p := ⟨b, 0, none⟩) (.inl rfl) _⟩
            have HGS : Aside0 (w.heap.size ≤ w2.heap.size) := ⟨HK52.out.size⟩
            by_cases hk0 : k = 0
            · subst hk0
              have HFN : Aside0 (initD N sh = (rz l, (l.length : Int))) := ⟨by rw [initD_M N sh hN0, ← HK.out, if_pos rfl, HLM.out, HM.out]⟩
              go_wp2_with (fail)
              go_end0
              exact ⟨rfl, HKX.out, _, R3, HGS.out, by rw [HFN.out]; exact HDX.out⟩
            · have hkn : -(k : Int) < 0 := by omega
              have hk0n : 0 < k := by omega
              have hk0d : decide (0 < k) = true := decide_eq_true hk0n
              have HFN : Aside0 (shrs 64 (rz l, (l.length : Int)) k = initD N sh) := ⟨by rw [initD_M N sh hN0, ← HK.out, if_neg hk0, HLM.out, HM.out]⟩
              have HRB : Aside0 ((rz l).length ≤ 155) := ⟨by have := rz_len l; have := HLL.out; omega⟩
              have hk3 : k ≤ 3000 := HK3.out
              go_upto_region 20 with (fail)
              obtain ⟨w4, hw4⟩ : ∃ w4, w4 = w3.setCell ⟨b, 0, none⟩ (.slice (some ⟨w2.heap.size, 0, none⟩) n (n + R3.length)) := ⟨_, rfl⟩
              rw [← hw4] at HDX HKX ⊢
              clear hw4 q0 q1 g0 g1
              obtain ⟨D, hD⟩ : ∃ D, D = initD N sh := ⟨_, rfl⟩
              rw [← hD] at HFN
              have HDD := Aside0.mk hD
              have hll : l.length ≤ 155 := HLL.out
              clear hD
              go_loopg [2] 64 (fun f v2 wr => ∃ (j i gg : Nat) (lj : List Int) (ej : Int) (R : List Value), v2 = .int .i64 (-(j : Int)) ∧ 0 < j ∧ j ≤ 60 * (f + 1) ∧ i + f = 64 ∧ Aside0 (shrs f (lj, ej) j = D) ∧ Aside0 (Dc lj) ∧ Aside0 (lj.length ≤ 1000 + 61 * i ∧ -1000 - 10000 * (i : Int) ≤ ej ∧ ej ≤ 1000) ∧ Aside0 (w.heap.size ≤ gg) ∧ Aside0 (DX wr b gg lj R ej) ∧ Aside0 (Kept (On b) w wr))
              case atStart => exact ⟨k, 0, _, rz l, _, R3, rfl, by omega, by omega, rfl, HFN, HDL, ⟨by have := HRB.out; omega, by omega, by omega⟩, HGS, HDX, HKX⟩
              case round =>
                clear HFN HDL HDX HKX HGS HRB
                obtain ⟨j, i, gg, lj, ej, R, rfl, hj0, hj1, hif, HFN, HDL, HBD, HGS, HDX, HKX⟩ := hrel
                have hbd := HBD.out
                have HLB : Aside0 (lj.length ≤ 1000000) := ⟨by omega⟩
                have HEB : Aside0 (-10000000 ≤ ej ∧ ej ≤ 10000000) := ⟨by omega⟩
                clear hbd
                by_cases h60 : 60 < j
                · obtain ⟨f, rfl⟩ : ∃ f, gk = f + 1 := ⟨gk - 1, by omega⟩
                  have hlt : -(j : Int) < -60 := by omega
                  have hjw : IntKind.i64.wrap (-(j : Int) + 60) = -((j - 60 : Nat) : Int) := by rw [IntWalk.i64_in _ (by omega)]; omega
                  have HR := Aside0.mk (rsh_c b gg 60 lj R ej wr HDX.out HDL.out (by omega) HEB.out HLB.out)
                  have HF2 : Aside0 (shrs f (rshD (lj, ej) 60) (j - 60) = D) := ⟨by rw [← shrs_more f _ j h60]; exact HFN.out⟩
                  have HDC2 := Aside0.mk (rshD_dc lj ej 60 HDL.out (by omega))
                  have HBD2 : Aside0 ((rshD (lj, ej) 60).1.length ≤ 1000 + 61 * (i + 1) ∧ -1000 - 10000 * ((i + 1 : Nat) : Int) ≤ (rshD (lj, ej) 60).2 ∧ (rshD (lj, ej) 60).2 ≤ 1000) := ⟨by have := rshD_bd lj ej 60 HDL.out (by omega); have := HBD.out; omega⟩
                  obtain ⟨d2, hd2⟩ : ∃ d2, d2 = rshD (lj, ej) 60 := ⟨_, rfl⟩
                  rw [← hd2] at HR HF2 HDC2 HBD2
                  obtain ⟨l2, e2⟩ := d2
                  clear hd2
                  go_wp2_with (go_at_call 76; refine HR.out.mono ?_; rintro e w5 ⟨rfl, hkk, g5, R5, hg5, hdx⟩; have HK5' := Aside0.mk hkk; have HG5 := Aside0.mk hg5; have HD5 := Aside0.mk hdx; clear hkk hg5 hdx)
                  go_roundg f
                  case measure => omega
                  case rel =>
                    refine ⟨j - 60, i + 1, g5, l2, e2, R5, rfl, by omega, by omega, by omega, HF2, HDC2, HBD2, ⟨?_⟩, HD5, ⟨?_⟩⟩
                    · have := HGS.out; have := HKX.out.size
                      rcases HG5.out with h | h <;> omega
                    · exact HKX.out.trans HK5'.out (fun i' hi' hT => by
                        rcases hT with h | h
                        · exact h
                        · have := HGS.out; omega)
                · have hnlt : ¬ -(j : Int) < -60 := by omega
                  have hjw : IntKind.u64.wrap (j : Int) = (j : Int) := by rw [IntKind.wrap_u64]; omega
                  have hjw2 : IntKind.i64.wrap (j : Int) = (j : Int) := IntWalk.i64_in _ (by omega)
                  have HR := Aside0.mk (rsh_c b gg j lj R ej wr HDX.out HDL.out (by omega) HEB.out HLB.out)
                  have HF2 : Aside0 (rshD (lj, ej) j = D) := ⟨by rw [← shrs_last gk _ j (by omega)]; exact HFN.out⟩
                  rw [HF2.out] at HR
                  go_wp2_with (go_at_call 76; refine HR.out.mono ?_; rintro e w5 ⟨rfl, hkk, g5, R5, hg5, hdx⟩; have HK5' := Aside0.mk hkk; have HG5 := Aside0.mk hg5; have HD5 := Aside0.mk hdx; clear hkk hg5 hdx)
                  go_end0
                  refine ⟨rfl, HKX.out.trans HK5'.out (fun i' hi' hT => by
                    rcases hT with h | h
                    · exact h
                    · have := HGS.out; omega), g5, R5, ?_, by rw [← HDD.out]; exact HD5.out⟩
                  have := HGS.out; have := HKX.out.size
                  rcases HG5.out with h | h <;> omega
end Go.Proofs.YtfnknldbjckgoaaGreatDoor.Sp
end
