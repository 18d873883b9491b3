/-
  MERGED BY PROGRAM (regroup.py): TextZ, AppI, FmtB, TextA.
-/
import Derived.Test.YtfnknldbjckgoaaGreatDoorGexa
import Derived.Test.YtfnknldbjckgoaaGreatDoorBuf
import Derived.Test.YtfnknldbjckgoaaGreatDoorGuto
import Derived.Test.YtfnknldbjckgoaaGreatDoorGdec
import Derived.Test.YtfnknldbjckgoaaGreatDoorShelf
import Derived.Deep.CutBlock
import Derived.Deep.LoopGhost
/-! ## TextZ -/
section
namespace Go.Proofs.YtfnknldbjckgoaaGreatDoor.Sp
open Go.RowKit Go.Proofs.YtfnknldbjckgoaaGreatDoorW.PrintWords Go.Proofs.YtfnknldbjckgoaaGreatDoorW.PrintLast Go.Proofs.YtfnknldbjckgoaaGreatDoorW.PrintMore Go.Proofs.YtfnknldbjckgoaaGreatDoor.Dig
set_option linter.unusedVariables false
set_option linter.unusedSimpArgs false
/-- The call hands back v' with the bytes l in it. -/
def BuPost (W0 : World) (l : List Int) (e : Ending) (w' : World) : Prop := ∃ v', e = .returned v' ∧ Bu W0 w' v' l
/-- So many noughts behind a point. -/
def zt (k : Nat) : List Int := if k = 0 then [] else 46 :: List.replicate k 48
end Go.Proofs.YtfnknldbjckgoaaGreatDoor.Sp
end

/-! ## AppI -/
section
namespace Go.Proofs.YtfnknldbjckgoaaGreatDoor.Sp
open Go.RowKit Go.Proofs.YtfnknldbjckgoaaGreatDoorW.PrintWords Go.Proofs.YtfnknldbjckgoaaGreatDoorW.PrintLast Go.Proofs.YtfnknldbjckgoaaGreatDoorW.PrintMore Go.Proofs.YtfnknldbjckgoaaGreatDoor.Dig
set_option linter.unusedVariables false
set_option linter.unusedSimpArgs false
theorem dec_itoaT (u : Nat) : (Go.Lib.decDigits u).map (fun b => (b.toNat : Int)) = itoaT u := by
  induction u using Nat.strongRecOn with
  | _ u ih =>
    rw [Go.Lib.decDigits]
    by_cases h : u < 10
    · rw [dif_pos h]
      have e1 : (UInt8.ofNat (48 + u)).toNat = 48 + u := by rw [UInt8.toNat_ofNat']; omega
      unfold itoaT
      by_cases h0 : u = 0
      · subst h0; rfl
      · rw [if_neg h0, figs_one 10 u (by omega) (by omega) (by omega) h, fig_dec u h]
        simp
        omega
    · rw [dif_neg h, List.map_append, ih (u / 10) (by omega)]
      have e1 : (UInt8.ofNat (48 + u % 10)).toNat = 48 + u % 10 := by rw [UInt8.toNat_ofNat']; omega
      unfold itoaT
      rw [if_neg (show ¬ u / 10 = 0 by omega), if_neg (show ¬ u = 0 by omega), (figs_succ 10 u (by omega) (by omega) (by omega)).1, fig_dec _ (Nat.mod_lt u (by omega))]
      simp
      omega
theorem itoa_cells (i : Int) : Go.Lib.byteCells (Go.Lib.itoa i) = nums .u8 (itoaI i) := by
  unfold Go.Lib.itoa itoaI Go.Lib.byteCells nums
  split
  · rw [← dec_itoaT]
    simp [List.map_map]
  · rename_i h
    rw [show i.toNat = i.natAbs by omega, ← dec_itoaT]
    simp [List.map_map]
theorem itoa_len (i : Int) : (Go.Lib.itoa i).length = (itoaI i).length := by
  have := congrArg List.length (itoa_cells i)
  simpa [Go.Lib.byteCells, nums] using this
/-- The table of powers of ten as laid. -/
def Pw (w : World) : Prop := Go.Lib.TabIs Tryz.prog w "internal/strconv.uint64pow10" .u64 Go.Lib.pow10Tab
theorem appI_c (W0 w : World) (v : Value) (l : List Int) (i : Int) (hb : Bu W0 w v l) (hT : Pw W0) (h0 : -1000000000000 ≤ i ∧ i ≤ 1000000000000) (hl : l.length ≤ 1000000000) : Calls Tryz.prog 70 #[v, .int .i64 i, .int .i64 10] w (BuPost W0 (l ++ itoaI i)) := by
  refine (Sh.strconv_AppendInt_10 W0.heap.size l.length i (by omega) (by omega) v _ w hb.own hb.bel.size (by omega) ((Go.Lib.tabBelow_of_tabIs hT).on hb.bel)).mono ?_
  rintro e w' ⟨v', rfl, h1, h2, _⟩
  refine ⟨v', rfl, ⟨?_, hb.bel.trans h2⟩⟩
  rw [itoa_cells, itoa_len, ← nums_append] at h1
  rw [List.length_append]
  exact h1
end Go.Proofs.YtfnknldbjckgoaaGreatDoor.Sp
end

/-! ## FmtB -/
section
namespace Go.Proofs.YtfnknldbjckgoaaGreatDoor.Sp
open Go.RowKit Go.Proofs.YtfnknldbjckgoaaGreatDoorW.PrintWords Go.Proofs.YtfnknldbjckgoaaGreatDoorW.PrintLast Go.Proofs.YtfnknldbjckgoaaGreatDoorW.PrintMore Go.Proofs.YtfnknldbjckgoaaGreatDoor.Dig
set_option linter.unusedVariables false
set_option linter.unusedSimpArgs false
theorem Own.flt {w0 w : World} {g p : Nat} {m : Int} {neg : Bool} {v x : Int} {b : Nat} (h : Own w0 w g p m neg v x b) : ∃ mb L R c, Flt w g mb p m 0 1 neg L.length c ((b : Int) + x) (L ++ R) ∧ Canon p L ∧ ev BW L = v * 2 ^ (64 * L.length - b) ∧ 64 * L.length < b + 64 ∧ b ≤ 64 * L.length := by
  obtain ⟨mb, L, R, c, h1, h2, h3, h4⟩ := h
  exact ⟨mb, L, R, c, h4⟩
theorem fit_of {M p : Nat} (h : M < 2 ^ p) (hp : p ≤ 512) : Fit M := Nat.lt_of_lt_of_le h (Nat.le_trans (Nat.pow_le_pow_right (by omega) hp) (by decide +kernel))
theorem up_cells {w' : World} {l : List Int} {g o : Nat} {Z : List Int} (h : Br w' g Z) (hd : Z.drop o = l) (ho : o ≤ Z.length) : ∀ j, j < l.length → w'.cell? ((⟨g, o, none⟩ : Addr).add j) = some (.int .u8 (l.getD j 0)) := by
  intro j hj
  have hl : l.length = Z.length - o := by rw [← hd, List.length_drop]
  rw [add_spot, h.cell (o + j) (by omega), ← hd]
  simp only [List.getD_eq_getElem?_getD, List.getElem?_drop]
theorem fit_figs {v : Nat} (h : Fit v) : (figs 10 v).length ≤ 155 := figs_len 10 155 v (by omega) (Nat.lt_trans h (by decide +kernel))
/-- The plain facts of fmtB. -/
structure BPre (L : List Int) (vN b p B M : Nat) : Prop where
  fit : Fit M
  pos : 0 < M
  lt : M < 2 ^ p
  eq : M = vN * 2 ^ (p - b)
  nv : ev BW L = (vN : Int) * (2 : Int) ^ (B - b)
theorem BPre.up {L : List Int} {vN b p B M t : Nat} (h : BPre L vN b p B M) (ht : p = B + t) (hb : b ≤ B) : ev BW L * 2 ^ t = (M : Int) := by
  rw [h.nv, h.eq, Int.natCast_mul, Int.natCast_pow, Int.mul_assoc, ← Int.pow_add, show B - b + t = p - b by omega]
  rfl
theorem BPre.same {L : List Int} {vN b p B M : Nat} (h : BPre L vN b p B M) (ht : B = p) : ev BW L = (M : Int) := by
  rw [h.nv, h.eq, ht, Int.natCast_mul, Int.natCast_pow]
  rfl
end Go.Proofs.YtfnknldbjckgoaaGreatDoor.Sp
end

/-! ## TextA -/
section
namespace Go.Proofs.YtfnknldbjckgoaaGreatDoor.Sp
open Go.RowKit Go.Proofs.YtfnknldbjckgoaaGreatDoorW.PrintWords Go.Proofs.YtfnknldbjckgoaaGreatDoorW.PrintLast Go.Proofs.YtfnknldbjckgoaaGreatDoorW.PrintMore Go.Proofs.YtfnknldbjckgoaaGreatDoor.Dig
set_option linter.unusedVariables false
set_option linter.unusedSimpArgs false
set_option maxHeartbeats 1600000 in
set_option maxRecDepth 100000 in
theorem text_any (g : Nat) (ch k : Int) (T : List Int) (w : World) (hk : -100000 ≤ k ∧ k ≤ 100000) (HA0 : ∀ W (v : Value), Bu w W v [] → Calls Tryz.prog 38 #[.pointer (some ⟨g, 0, none⟩), v, .int .u8 ch, .int .i64 k] W (BuPost w T)) :
    Calls Tryz.prog 29 #[.pointer (some ⟨g, 0, none⟩), .int .u8 ch, .int .i64 k] w fun e w' => e = .returned (.string (strOfNums T)) ∧ Below w.heap.size w w' := by
  obtain ⟨cap, hcap⟩ : ∃ cap : Int, cap = if 0 < k then 10 + k else 10 := ⟨_, rfl⟩
  have hc0 : 0 ≤ cap ∧ cap ≤ 200000 := by split at hcap <;> omega
  have hmk := make_ints 43 5 .u8 1 Tryz.underlying43 infoU8 (by omega) 0 cap (by omega) hc0.1 (by omega)
  have HA : Aside0 (∀ W, Bu w W (.slice (some ⟨w.heap.size, 0, none⟩) 0 cap.toNat) [] → Calls Tryz.prog 38 #[.pointer (some ⟨g, 0, none⟩), .slice (some ⟨w.heap.size, 0, none⟩) 0 cap.toNat, .int .u8 ch, .int .i64 k] W fun e w' => ∃ v', e = .returned v' ∧ Bu w w' v' T) := ⟨fun W h2 => HA0 W _ h2⟩
  have HM : Aside0 (Bu w (w.alloc (.cells (Array.replicate cap.toNat (.int .u8 0)) 5)) (.slice (some ⟨w.heap.size, 0, none⟩) 0 cap.toNat) []) := ⟨bu_made w w (Below.refl _ _) _ (by omega)⟩
  clear HA0
  have h0n : (0 : Int).toNat = 0 := rfl
  rw [h0n] at hmk
  by_cases hk0 : 0 < k
  · have hw : IntKind.i64.wrap (10 + k) = cap := by rw [IntWalk.i64_in _ (by omega), hcap, if_pos hk0]
    clear hcap hc0
    go_enter Tryz.func29, Tryz.ntmps29
    go_wp2_with (go_at_call 38; refine (HA.out _ HM.out).mono ?_; rintro e w1 ⟨v1, rfl, hb1⟩; have hcv := bu_string hb1 9 Tryz.underlying9; have HB1 := Aside0.mk hb1.bel; clear hb1)
    go_ret
    exact ⟨rfl, HB1.out⟩
  · have hw : cap = 10 := by rw [hcap, if_neg hk0]
    subst hw
    clear hcap hc0
    go_enter Tryz.func29, Tryz.ntmps29
    go_wp2_with (go_at_call 38; refine (HA.out _ HM.out).mono ?_; rintro e w1 ⟨v1, rfl, hb1⟩; have hcv := bu_string hb1 9 Tryz.underlying9; have HB1 := Aside0.mk hb1.bel; clear hb1)
    go_ret
    exact ⟨rfl, HB1.out⟩
/-- The sign's text. -/
def sgn1 (neg : Bool) : List Int := if neg then [45] else []
set_option maxHeartbeats 1600000 in
set_option maxRecDepth 100000 in
/-- impl.Text at a finite value, over any contract of Append. -/
theorem textF_c (p b : Nat) (m ch k : Int) (neg : Bool) (A : Option Addr) (mm cc : Nat) (x v : Int) (X T : List Int) (w : World) (h : Ws w (.slice A mm cc) X) (hX : X.length ≤ 10000) (hv : ev BW X = v) (hv0 : 0 < v) (hb : Bits v b) (hbp : b ≤ p) (hp1 : 1 ≤ p ∧ p ≤ 600000) (hm : 0 ≤ m ∧ m < 6) (hx : -1000000000 ≤ x ∧ x ≤ 1000000000) (hk : -100000 ≤ k ∧ k ≤ 100000)
    (HA0 : ∀ w0 W0 W g (vv : Value), Below w.heap.size w W0 → Own w0 W0 g p m neg v x b → Bu W0 W vv [] → Calls Tryz.prog 38 #[.pointer (some ⟨g, 0, none⟩), vv, .int .u8 ch, .int .i64 k] W (BuPost W0 T)) :
    Calls Tryz.prog 14 #[.agg #[.int .u64 p, .int .i64 m, .int .i64 1, .bool neg, .slice A mm cc, .int .i64 x], .int .u8 ch, .int .i64 k] w fun e w' => e = .returned (.string (strOfNums T)) ∧ Below w.heap.size w w' := by
  have hu := Tryz.underlying25
  have HB0 := Aside0.mk (below_alloc (Below.refl w.heap.size w) (.cells #[.int .u64 p, .int .i64 m, .int .i64 1, .bool neg, .slice A mm cc, .int .i64 x] 25))
  have HEX := Aside0.mk (exact_c p b m neg A mm cc x v X _ (h.below HB0.out) hX hv hv0 hb hbp hp1 hm hx)
  have HA := Aside0.mk HA0
  clear HA0 h hX hv hv0 hb hbp hp1 hm hx
  go_enter Tryz.func14, Tryz.ntmps14
  go_wp2_with (fail)
  refine HEX.out.mono ?_
  rintro e w1 ⟨g, rfl, hs, hb1⟩
  have HB1 := Aside0.mk (below_step HB0.out hb1)
  have HT := Aside0.mk (text_any g ch k T w1 hk (fun W vv h1 => HA.out _ w1 W g vv HB1.out hs h1))
  clear hs hb1
  go_wp2_with (fail)
  refine HT.out.mono ?_
  rintro e w2 ⟨rfl, hb2⟩
  have HB2 := Aside0.mk (below_step HB1.out hb2)
  clear hb2 HT
  go_wp2_with (fail)
  go_ret
  exact ⟨rfl, HB2.out⟩
end Go.Proofs.YtfnknldbjckgoaaGreatDoor.Sp
end
