/-
  PLAIN: what spec.In and spec.Hex tell (as printed), and CONTRACTS of spec.Hex, spec.HexBelow.
-/
import Derived.Test.YtnbnfjpecgbnpaaGreatDoorGspt
import Derived.Test.YtnbnfjpecgbnpaaGreatDoorSpSHex
import Derived.Test.YtnbnfjpecgbnpaaGreatDoorHexP
import Derived.Lib.Strings
namespace Go.Proofs.YtnbnfjpecgbnpaaGreatDoor.Sp
open Go.RowKit Go.Proofs.YtnbnfjpecgbnpaaGreatDoorW.PrintWords Go.Proofs.YtnbnfjpecgbnpaaGreatDoorW.PrintLast Go.Proofs.YtnbnfjpecgbnpaaGreatDoorW.PrintMore Go.Proofs.YtnbnfjpecgbnpaaGreatDoor.Dig
set_option linter.unusedVariables false
set_option linter.unusedSimpArgs false
/-- The figures to the base 16. -/
def hx16 : ByteArray := ⟨#[48, 49, 50, 51, 52, 53, 54, 55, 56, 57, 97, 98, 99, 100, 101, 102]⟩
theorem hx_one (r : Nat) (h : r < 16) : hx16.extract r (r + 1) = strOfNums [fig r] := by
  match r, h with
  | 0, _ => rfl
  | 1, _ => rfl
  | 2, _ => rfl
  | 3, _ => rfl
  | 4, _ => rfl
  | 5, _ => rfl
  | 6, _ => rfl
  | 7, _ => rfl
  | 8, _ => rfl
  | 9, _ => rfl
  | 10, _ => rfl
  | 11, _ => rfl
  | 12, _ => rfl
  | 13, _ => rfl
  | 14, _ => rfl
  | 15, _ => rfl
  | d + 16, h => exact absurd h (by omega)
theorem str_ne {acc : List Int} (h : acc ≠ []) : (strOfNums acc).toList ≠ [] := by
  intro h2
  have h3 := strOfNums_sz acc
  have h4 : (strOfNums acc).data.toList.length = acc.length := by rw [Array.length_toList]; exact h3
  rw [ByteArray.toList_eq] at h2
  rw [h2, List.length_nil] at h4
  exact h (List.eq_nil_of_length_eq_zero h4.symm)
theorem in_l (d : Nat) : ∀ (n : Nat) (l : List Int) (acc : List Int), n < 16 ^ d → Cn BH l → ev BH l = (n : Int) → l.length ≤ 100000 → acc.length + d ≤ 1000000 → (acc ≠ [] ∨ 0 < n) → Ev (fun k => spec_In.l0 k l 16 (strOfNums acc)) (strOfNums (figs 16 n ++ acc)) := by
  have base : ∀ acc : List Int, acc ≠ [] → Ev (fun k => spec_In.l0 k [] 16 (strOfNums acc)) (strOfNums (figs 16 0 ++ acc)) := by
    intro acc ha
    rw [figs_zero, List.nil_append]
    refine Ev.step (f := fun _ => some (strOfNums acc)) (fun k => ?_) (Ev.now _)
    simp only [spec_In.l0]
    rw [if_neg (by simp), if_neg (str_ne ha)]
  induction d with
  | zero =>
    intro n l acc hn hc he hl ha hne
    have hn0 : n = 0 := by simpa using hn
    subst hn0
    have hl0 : l = [] := Cn_zero hc BH_pos he
    subst hl0
    exact base acc (by rcases hne with h | h; exact h; omega)
  | succ d ih =>
    intro n l acc hn hc he hl ha hne
    by_cases hn0 : n = 0
    · subst hn0
      have hl0 : l = [] := Cn_zero hc BH_pos he
      subst hl0
      exact base acc (by rcases hne with h | h; exact h; omega)
    · have hll : 0 < l.length := by
        rcases Nat.eq_zero_or_pos l.length with h | h
        · rw [List.eq_nil_of_length_eq_zero h, ev_nil] at he; omega
        · exact h
      obtain ⟨q, r, hq, hqc, hqe, hr0, hr1⟩ := dig_ev l hc (by omega) 16 (by omega) (by omega)
      have hqn : ev BH q = ((n / 16 : Nat) : Int) := by omega
      have hrn : r = ((n % 16 : Nat) : Int) := by omega
      have hql : q.length ≤ 100000 := by
        rcases Nat.lt_or_ge q.length l.length with h | h
        · omega
        · rcases Nat.lt_or_ge l.length q.length with h2 | h2
          · have := len_lt_ev hc hqc h2
            omega
          · omega
      have hw : wrap64 (r + 1) = r + 1 := w64 (by omega) (by omega)
      have hx : hx16.extract r.toNat (r + 1).toNat = strOfNums [fig (n % 16)] := by
        have h1 : r.toNat = n % 16 := by omega
        have h2 : (r + 1).toNat = n % 16 + 1 := by omega
        rw [h1, h2]
        exact hx_one _ (Nat.mod_lt n (by omega))
      have hi := ih (n / 16) q (fig (n % 16) :: acc) (by rw [Nat.pow_succ] at hn; omega) hqc hqn hql (by simp only [List.length_cons]; omega) (.inl (by simp))
      rw [(figs_succ 16 n (by omega) (by omega) (by omega)).1, List.append_assoc]
      refine Ev.step (f := fun k => (spec_byDigit.f k l 16).bind fun bt => (if 0 ≤ bt.2 then (if bt.2 ≤ (wrap64 (bt.2 + 1)) then (if (wrap64 (bt.2 + 1)) ≤ 16 then (if (hx16.extract (bt.2 : Int).toNat ((wrap64 (bt.2 + 1)) : Int).toNat).size + (strOfNums acc).size ≤ 9223372036854775807 then (spec_In.l0 k bt.1 16 ((hx16.extract (bt.2 : Int).toNat ((wrap64 (bt.2 + 1)) : Int).toNat) ++ (strOfNums acc))) else (none)) else (none)) else (none)) else (none))) (fun k => ?_) ?_
      · simp only [spec_In.l0]
        rw [if_pos (by omega)]
        rfl
      · refine Ev.bind hq ?_
        refine Ev.congr (f := fun k => spec_In.l0 k q 16 (strOfNums (fig (n % 16) :: acc))) (fun k => ?_) hi
        show (if 0 ≤ r then _ else _) = _
        rw [if_pos hr0, hw, if_pos (show r ≤ r + 1 by omega), if_pos (show r + 1 ≤ 16 by omega), hx, strOfNums_sz, strOfNums_sz, if_pos (by simp only [List.length_cons, List.length_nil]; omega), ← strOfNums_app]
        rfl
theorem hex_ev (n d : Nat) (hd : n < 16 ^ d) (h9 : d ≤ 100000) (h0 : 0 < n) (l : List Int) (hc : Cn BH l) (he : ev BH l = (n : Int)) (hl : l.length ≤ 100000) : Ev (fun k => spec_Hex.f k l) (strOfNums (figs 16 n)) := by
  have h := in_l d n l [] hd hc he hl (by simp; omega) (.inr h0)
  rw [List.append_nil] at h
  refine Ev.congr (f := fun k => (spec_In.f k l 16).bind fun t => some t) (fun k => rfl) ?_
  exact Ev.bind h (Ev.now _)
theorem hex_c (v : Value) (M : Nat) (w : World) (h : Dg w v (M : Int)) (hf : Fit M) (hM : 0 < M) (hl : (M : Int) < Lim) : Calls Tryz.prog 22 #[v] w fun e w' => e = .returned (.string (strOfNums (figs 16 M))) ∧ Below w.heap.size w w' := by
  obtain ⟨A, c, l, rfl, h2, h3, h4, h5⟩ := h
  have hll := Lim_len h4 (by rw [h5]; exact hl)
  obtain ⟨K, hK⟩ := hex_ev M 150 (Nat.lt_of_lt_of_le hf (by decide +kernel)) (by omega) hM l h4 h5 hll
  exact spec_Hex.calls K A c l _ w h3 h2 (hK K (Nat.le_refl _))
theorem str_at (l : List Int) (q : Nat) (hq : q < l.length) (h : q < (strOfNums l).size) (hd : 0 ≤ l.getD q 0 ∧ l.getD q 0 < 256) : (((strOfNums l)[q]'h).toNat : Int) = l.getD q 0 := by
  have h1 : (strOfNums l)[q]'h = ((l.map fun n => UInt8.ofNat n.toNat).toArray)[q]'(by simpa using hq) := rfl
  have h2 : l.getD q 0 = l[q] := by rw [List.getD_eq_getElem?_getD, List.getElem?_eq_getElem hq]; rfl
  rw [h1, List.getElem_toArray, List.getElem_map, UInt8.toNat_ofNat', h2]
  rw [h2] at hd
  omega
theorem str_cut (l : List Int) (n q : Nat) (hq : q ≤ n) : (strOfNums (l.take n)).extract 0 q = strOfNums (l.take q) := by
  apply ByteArray.ext
  rw [ByteArray.data_extract]
  apply Array.toList_inj.1
  simp [strOfNums, List.map_take, List.take_take, Nat.min_eq_left hq]
set_option maxHeartbeats 3200000 in
set_option maxRecDepth 100000 in
theorem hexBelow_c (neg : Bool) (A : Option Addr) (mm cc : Nat) (vN b : Nat) (x : Int) (w : World) (h : Dg w (.slice A mm cc) (vN : Int)) (hv0 : 0 < vN) (hb : Bits (vN : Int) b) (hb9 : b ≤ 448) (hx : -1000 ≤ x ∧ x ≤ 1000) :
    Calls Tryz.prog 10 #[.agg #[.bool neg, .slice A mm cc, .int .i64 x]] w fun e w' => e = .returned (.string (strOfNums (sgn1 neg ++ fmtPT vN b x))) ∧ Below w.heap.size w w' := by
  have hvb : vN < 2 ^ b := Int.ofNat_lt.1 (by rw [Int.natCast_pow]; exact hb.2.1)
  obtain ⟨t, ht⟩ : ∃ t, t = (4 - b % 4) % 4 := ⟨_, rfl⟩
  have hMp : vN * 2 ^ t < 2 ^ (b + t) := by
    have h1 := Nat.mul_lt_mul_of_pos_right hvb (Nat.two_pow_pos t)
    rwa [← Nat.pow_add] at h1
  have hM0 : 0 < vN * 2 ^ t := Nat.mul_pos hv0 (Nat.two_pow_pos _)
  obtain ⟨M, hM⟩ : ∃ M, M = vN * 2 ^ t := ⟨_, rfl⟩
  rw [← hM] at hMp hM0
  have hMI : (vN : Int) * 2 ^ t = (M : Int) := by rw [hM, Int.natCast_mul, Int.natCast_pow]; rfl
  have hvL : (vN : Int) < Lim := lt_Lim b (fit_pow hvb) (by omega)
  have HML : Aside0 ((M : Int) < Lim) := ⟨lt_Lim (b + t) (fit_pow hMp) (by omega)⟩
  have HFM := Aside0.mk (fit_of hMp (by omega))
  have HM0 := Aside0.mk hM0
  have HB0 := Aside0.mk (below_alloc (Below.refl w.heap.size w) (.cells #[.bool neg, .slice A mm cc, .int .i64 x] 32))
  have KX := Aside0.mk (show hp (w.alloc (.cells #[.bool neg, .slice A mm cc, .int .i64 x] 32)) w.heap.size = some (.cells #[.bool neg, .slice A mm cc, .int .i64 x] 32 (0, 0)) from (by simp (disch := first | omega | (simp; omega) | (simp; done) | fail) [hp_new, hp_old, hp_here, hp_other, setObj_cells, hp_drew, hp_drewN]))
  have HLN : Aside0 (∀ W, Below w.heap.size w W → Calls Tryz.prog 14 #[.slice A mm cc] W fun e w' => e = .returned (.int .i64 b) ∧ Below W.heap.size W w') := ⟨fun W hW => len_is _ _ b _ (h.below hW) hvL hb⟩
  have HSH : Aside0 (∀ W, Below w.heap.size w W → Calls Tryz.prog 21 #[.slice A mm cc, .int .i64 (t : Int)] W fun e w' => ∃ v, e = .returned v ∧ Dg w' v (M : Int) ∧ Below W.heap.size W w') := ⟨fun W hW => by
    have := shl_c (.slice A mm cc) (vN : Int) (t : Int) W (h.below hW) hvL (by omega) (by omega)
    rw [Int.toNat_natCast, hMI] at this
    exact this⟩
  obtain ⟨E, hE⟩ : ∃ E : Int, E = (b : Int) + x := ⟨_, rfl⟩
  have HSG : Aside0 (∀ W, Calls Tryz.prog 24 #[.int .i64 E] W fun e w' => e = .returned (.string (strOfNums (signI E))) ∧ Below W.heap.size W w') := ⟨fun W => signed_c E (by omega) W⟩
  obtain ⟨F, hF⟩ : ∃ F, F = figs 16 M := ⟨_, rfl⟩
  have hT : fmtPT vN b x = [48, 120, 46] ++ rz F ++ [112] ++ signI E := by rw [signI_eq]; unfold fmtPT; rw [← ht, ← hM, ← hF, ← hE]; simp only [List.append_assoc]
  have HHX : Aside0 (∀ W v, Dg W v (M : Int) → Calls Tryz.prog 22 #[v] W fun e w' => e = .returned (.string (strOfNums F)) ∧ Below W.heap.size W w') := ⟨fun W v hd => by rw [hF]; exact hex_c v M W hd HFM.out HM0.out HML.out⟩
  have hu := Tryz.underlying32
  have htI : (wrap64 (4 - (b : Int).tmod 4)).tmod 4 = (t : Int) := by
    have e1 : (b : Int).tmod 4 = ((b % 4 : Nat) : Int) := by rw [Int.tmod_eq_emod_of_nonneg (by omega)]; omega
    rw [e1, w64 (by omega) (by omega), Int.tmod_eq_emod_of_nonneg (by omega)]
    omega
  rw [← htI] at HSH
  have HEW : Aside0 (wrap64 (x + (b : Int)) = E) := ⟨by rw [w64 (by omega) (by omega)]; omega⟩
  clear htI
  obtain ⟨TT, hTT⟩ : ∃ TT, TT = strOfNums (sgn1 neg ++ fmtPT vN b x) := ⟨_, rfl⟩
  rw [← hTT]
  have HTT := Aside0.mk hTT
  have HT := Aside0.mk hT
  have HE9 : Aside0 (-3000 ≤ E ∧ E ≤ 3000) := ⟨by omega⟩
  have HFL : Aside0 (F.length ≤ 150) := ⟨by rw [hF]; exact figs_len 16 150 M (by omega) (Nat.lt_of_lt_of_le HFM.out (by decide +kernel))⟩
  have HFF := Aside0.mk hF
  have HFZ : Aside0 (rz F ≠ []) := ⟨by
    have h1 := figs_ne 16 M (by omega) (by omega) hM0
    obtain ⟨c', s, hct⟩ : ∃ c' s, figs 16 M = c' :: s := by
      cases hf : figs 16 M with
      | nil => exact absurd hf h1
      | cons a s => exact ⟨a, s, rfl⟩
    have h2 : c' ≠ 48 := by
      intro h3
      have h4 := lz_head (lows 16 (M.log2 + 1) M)
      rw [show lz (lows 16 (M.log2 + 1) M) = figs 16 M from rfl, hct, h3] at h4
      exact h4 rfl
    obtain ⟨t2, ht2⟩ := rz_head c' s h2
    rw [hF, hct, ht2]
    simp⟩
  clear h hv0 hb hx hvb hMp hM0 hM hMI hvL hT hE hTT hF
  go_enter Tryz.func10, Tryz.ntmps10
  go_upto_region 1 with (fail)
  refine start_ (n := 10) (S := fun w' => w'.cell? ⟨w.heap.size, 1, none⟩ = some (.slice A mm cc)) (ds := []) #[false, false, false, false, false, false, false, false, false, false] (by kernel_rfl) rfl rfl ((by go_simp)) (fun hHeld => ?_)
  refine pure_ (i := 0) (N := some 6) (v := ?_) (a' := ?_) #[true, false, false, false, false, false, false, false, false, false] rfl rfl (by kernel_rfl) (fun _ _ _ h => h) (Or.inl ⟨by rfl, ?_⟩) ?_ ?_
  rotate_left
  · intro w'
    go_simp
    with_reducible rfl
  rotate_left
  · simp only [Act.put, List.setIfInBounds_toArray, List.set_cons_zero, List.set_cons_succ, i64_w, i32_w]
    rfl
  refine pure_ (i := 2) (N := some 8) (v := ?_) (a' := ?_) #[true, false, true, false, false, false, false, false, false, false] rfl rfl (by kernel_rfl) (fun _ _ _ h => h) (Or.inl ⟨by rfl, ?_⟩) ?_ ?_
  rotate_left
  · intro w'
    go_simp
    with_reducible rfl
  rotate_left
  · simp only [Act.put, List.setIfInBounds_toArray, List.set_cons_zero, List.set_cons_succ, i64_w, i32_w]
    rfl
  refine take_ (i := 1) (N := some 7) (v := ?_) (a' := ?_) #[true, true, true, false, false, false, false, false, false, false] rfl rfl (by kernel_rfl) (fun _ _ _ h => h) (Or.inl ⟨by rfl, ?_⟩) hHeld ?_ ?_
  rotate_left
  · intro w' s0
    go_simp
    with_reducible rfl
  rotate_left
  · simp only [Act.put, List.setIfInBounds_toArray, List.set_cons_zero, List.set_cons_succ, i64_w, i32_w]
    rfl
  refine take_ (i := 3) (N := some 9) (v := ?_) (a' := ?_) #[true, true, true, true, false, false, false, false, false, false] rfl rfl (by kernel_rfl) (fun _ _ _ h => h) (Or.inl ⟨by rfl, ?_⟩) hHeld ?_ ?_
  rotate_left
  · intro w' s0
    go_simp
    with_reducible rfl
  rotate_left
  · simp only [Act.put, List.setIfInBounds_toArray, List.set_cons_zero, List.set_cons_succ, i64_w, i32_w]
    rfl
  refine one_ (i := 4) (N := some 10) #[true, true, true, true, true, false, false, false, false, false] rfl rfl (by kernel_rfl) (by decide) (fun K hK => ?_)
  refine goes_ Tryz.func14 (by kernel_rfl) rfl #[.slice A mm cc] (by rfl) rfl rfl (by simp only [List.map_toArray, List.map_cons, List.map_nil]; rfl) ?_
  with_reducible refine (HLN.out _ (below_drew1 HB0.out)).mono ?_
  rintro e w1 ⟨rfl, hb1⟩
  refine ⟨_, rfl, ?_⟩
  have HB1 := Aside0.mk (below_step (below_drew1 HB0.out) hb1)
  have KX1 := Aside0.mk (hp_below (show hp (w.alloc _).drew w.heap.size = _ from KX.out) hb1)
  obtain ⟨q0, q1, q2, _, _, _⟩ := blk3 KX1.out
  clear hb1
  refine hK.out _ _ (q1) (fun hHeld => ?_)
  clear hK K
  refine norm_ (a' := ?_) ?_ ?_
  rotate_left
  · show Act.put _ (some 10) _ = _
    simp only [Act.put, List.setIfInBounds_toArray, List.set_cons_zero, List.set_cons_succ, i64_w, i32_w]
    rfl
  refine pure_ (i := 5) (N := some 11) (v := ?_) (a' := ?_) #[true, true, true, true, true, true, false, false, false, false] rfl rfl (by kernel_rfl) (fun _ _ _ h => h) (Or.inl ⟨by rfl, ?_⟩) ?_ ?_
  rotate_left
  · intro w'
    go_simp
    with_reducible rfl
  rotate_left
  · simp only [Act.put, List.setIfInBounds_toArray, List.set_cons_zero, List.set_cons_succ, i64_w, i32_w]
    rfl
  refine pure_ (i := 6) (N := some 12) (v := ?_) (a' := ?_) #[true, true, true, true, true, true, true, false, false, false] rfl rfl (by kernel_rfl) (fun _ _ _ h => h) (Or.inl ⟨by rfl, ?_⟩) ?_ ?_
  rotate_left
  · intro w'
    go_simp
    with_reducible rfl
  rotate_left
  · simp only [Act.put, List.setIfInBounds_toArray, List.set_cons_zero, List.set_cons_succ, i64_w, i32_w]
    rfl
  refine pure_ (i := 7) (N := some 13) (v := ?_) (a' := ?_) #[true, true, true, true, true, true, true, true, false, false] rfl rfl (by kernel_rfl) (fun _ _ _ h => h) (Or.inl ⟨by rfl, ?_⟩) ?_ ?_
  rotate_left
  · intro w'
    go_simp
    with_reducible rfl
  rotate_left
  · simp only [Act.put, List.setIfInBounds_toArray, List.set_cons_zero, List.set_cons_succ, i64_w, i32_w]
    rfl
  refine one_ (i := 8) (N := some 14) #[true, true, true, true, true, true, true, true, true, false] rfl rfl (by kernel_rfl) (by decide) (fun K hK => ?_)
  refine goes_ Tryz.func21 (by kernel_rfl) rfl #[.slice A mm cc, .int .i64 ((wrap64 (4 - (b : Int).tmod 4)).tmod 4)] (by rfl) rfl rfl (by simp only [List.map_toArray, List.map_cons, List.map_nil]; rfl) ?_
  with_reducible refine (HSH.out w1 HB1.out).mono ?_
  rintro e w2 ⟨v2, rfl, hd2, hb2⟩
  refine ⟨_, rfl, ?_⟩
  have HB2 := Aside0.mk (below_step HB1.out hb2)
  have KX2 := Aside0.mk (hp_below KX1.out hb2)
  have HD2 := Aside0.mk hd2
  obtain ⟨A2, m2, c2, rfl⟩ := hd2.slice
  obtain ⟨q0, q1, q2, _, _, _⟩ := blk3 KX2.out
  clear hb2 hd2
  refine hK.out _ _ (q1) (fun hHeld => ?_)
  clear hK K
  refine norm_ (a' := ?_) ?_ ?_
  rotate_left
  · show Act.put _ (some 14) _ = _
    simp only [Act.put, List.setIfInBounds_toArray, List.set_cons_zero, List.set_cons_succ, i64_w, i32_w]
    rfl
  refine pure_ (i := 9) (N := some 3) (v := ?_) (a' := ?_) #[true, true, true, true, true, true, true, true, true, true] rfl rfl (by kernel_rfl) (fun _ _ _ h => h) (Or.inl ⟨by rfl, ?_⟩) ?_ ?_
  rotate_left
  · intro w'
    go_simp
    with_reducible rfl
  rotate_left
  · simp only [Act.put, List.setIfInBounds_toArray, List.set_cons_zero, List.set_cons_succ, i64_w, i32_w]
    rfl
  refine done_ (by kernel_rfl) ?_
  clear q0 q1 q2 hHeld HSH
  have HH2 := Aside0.mk (HHX.out w2 _ HD2.out)
  go_wp2_with (go_at_call 22; refine HH2.out.mono ?_; rintro e w3 ⟨rfl, hb3⟩; have HB3 := Aside0.mk (below_step HB2.out hb3); have KX3 := Aside0.mk (hp_below KX2.out hb3); clear hb3)
  have HBD3 := Aside0.mk (below_drew1 HB3.out)
  obtain ⟨d0, d1, d2, g0, g1, g2⟩ := blk3 KX3.out
  have lg3 := hp_lt KX3.out
  clear HH2 HHX
  go_upto_region 3 with (fail)
  refine start_ (n := 7) (S := fun w' => w'.cell? ⟨w.heap.size, 1, none⟩ = some (.slice A mm cc) ∧ w'.cell? ⟨w.heap.size, 2, none⟩ = some (.int .i64 x)) (ds := []) #[false, false, false, false, false, false, false] (by kernel_rfl) rfl rfl ⟨(by go_simp), (by go_simp)⟩ (fun hHeld => ?_)
  refine pure_ (i := 0) (N := some 17) (v := ?_) (a' := ?_) #[true, false, false, false, false, false, false] rfl rfl (by kernel_rfl) (fun _ _ _ h => h) (Or.inl ⟨by rfl, ?_⟩) ?_ ?_
  rotate_left
  · intro w'
    go_simp
    with_reducible rfl
  rotate_left
  · simp only [Act.put, List.setIfInBounds_toArray, List.set_cons_zero, List.set_cons_succ, i64_w, i32_w]
    rfl
  refine pure_ (i := 2) (N := some 19) (v := ?_) (a' := ?_) #[true, false, true, false, false, false, false] rfl rfl (by kernel_rfl) (fun _ _ _ h => h) (Or.inl ⟨by rfl, ?_⟩) ?_ ?_
  rotate_left
  · intro w'
    go_simp
    with_reducible rfl
  rotate_left
  · simp only [Act.put, List.setIfInBounds_toArray, List.set_cons_zero, List.set_cons_succ, i64_w, i32_w]
    rfl
  refine take_ (i := 1) (N := some 18) (v := ?_) (a' := ?_) #[true, true, true, false, false, false, false] rfl rfl (by kernel_rfl) (fun _ _ _ h => h) (Or.inl ⟨by rfl, ?_⟩) hHeld ?_ ?_
  rotate_left
  · rintro w' ⟨s0, s1⟩
    go_simp
    with_reducible rfl
  rotate_left
  · simp only [Act.put, List.setIfInBounds_toArray, List.set_cons_zero, List.set_cons_succ, i64_w, i32_w]
    rfl
  refine take_ (i := 3) (N := some 20) (v := ?_) (a' := ?_) #[true, true, true, true, false, false, false] rfl rfl (by kernel_rfl) (fun _ _ _ h => h) (Or.inl ⟨by rfl, ?_⟩) hHeld ?_ ?_
  rotate_left
  · rintro w' ⟨s0, s1⟩
    go_simp
    with_reducible rfl
  rotate_left
  · simp only [Act.put, List.setIfInBounds_toArray, List.set_cons_zero, List.set_cons_succ, i64_w, i32_w]
    rfl
  refine one_ (i := 4) (N := some 21) #[true, true, true, true, true, false, false] rfl rfl (by kernel_rfl) (by decide) (fun K hK => ?_)
  refine goes_ Tryz.func14 (by kernel_rfl) rfl #[.slice A mm cc] (by rfl) rfl rfl (by simp only [List.map_toArray, List.map_cons, List.map_nil]; rfl) ?_
  with_reducible refine (HLN.out _ HBD3.out).mono ?_
  rintro e w4 ⟨rfl, hb4⟩
  refine ⟨_, rfl, ?_⟩
  have HB4 := Aside0.mk (below_step HBD3.out hb4)
  have KX4 := Aside0.mk (hp_below (show hp w3.drew w.heap.size = _ from KX3.out) hb4)
  obtain ⟨q0, q1, q2, _, _, _⟩ := blk3 KX4.out
  clear hb4
  refine hK.out _ _ ⟨q1, q2⟩ (fun hHeld => ?_)
  clear hK K
  refine norm_ (a' := ?_) ?_ ?_
  rotate_left
  · show Act.put _ (some 21) _ = _
    simp only [Act.put, List.setIfInBounds_toArray, List.set_cons_zero, List.set_cons_succ, i64_w, i32_w]
    rfl
  refine pure_ (i := 5) (N := some 22) (v := ?_) (a' := ?_) #[true, true, true, true, true, true, false] rfl rfl (by kernel_rfl) (fun _ _ _ h => h) (Or.inl ⟨by rfl, ?_⟩) ?_ ?_
  rotate_left
  · intro w'
    go_simp
    with_reducible rfl
  rotate_left
  · simp only [Act.put, List.setIfInBounds_toArray, List.set_cons_zero, List.set_cons_succ, i64_w, i32_w]
    rfl
  refine pure_ (i := 6) (N := some 5) (v := ?_) (a' := ?_) #[true, true, true, true, true, true, true] rfl rfl (by kernel_rfl) (fun _ _ _ h => h) (Or.inl ⟨by rfl, ?_⟩) ?_ ?_
  rotate_left
  · intro w'
    go_simp
    with_reducible rfl
  rotate_left
  · simp only [Act.put, List.setIfInBounds_toArray, List.set_cons_zero, List.set_cons_succ, i64_w, i32_w]
    rfl
  refine done_ (by kernel_rfl) ?_
  rw [HEW.out]
  clear q0 q1 q2 hHeld HLN d0 d1 d2 g0 g1 g2 lg3
  have HDG : Aside0 (∀ c ∈ F, 48 ≤ c ∧ c ≤ 102) := ⟨by rw [HFF.out]; exact fun c hc => lows_hex 16 (by omega) _ _ c (lz_mem _ _ hc)⟩
  obtain ⟨fl, hfl⟩ : ∃ fl, fl = F.length := ⟨_, rfl⟩
  have HFN := Aside0.mk hfl
  have hfl9 : fl ≤ 150 := by rw [hfl]; exact HFL.out
  have HF0 : Aside0 (strOfNums F = strOfNums (F.take fl)) := ⟨by rw [hfl, List.take_length]⟩
  clear hfl
  rw [HF0.out]
  go_wp2_with (fail)
  go_loopg [4] fl (fun k v4 wr => ∃ S, v4 = .string S ∧ k ≤ fl ∧ Aside0 (S = strOfNums (F.take k)) ∧ S.size = k ∧ Aside0 (∀ j : Nat, k ≤ j → j < F.length → F.getD j 0 = (48 : Int)) ∧ w4 = wr)
  case atStart => exact ⟨_, rfl, Nat.le_refl _, ⟨rfl⟩, by rw [strOfNums_sz, List.length_take]; have := HFN.out; omega, ⟨fun j h1 h2 => by have := HFN.out; omega⟩, rfl⟩
  case round =>
    obtain ⟨S, rfl, hk, HS, hSz, HZ, rfl⟩ := hrel
    by_cases hn0 : gk = 0
    · subst hn0
      exact absurd (rz_of F 0 (Nat.zero_le _) HZ.out (.inl rfl)).symm (by rw [List.take_zero]; exact HFZ.out)
    · obtain ⟨q, hq⟩ : ∃ q, gk = q + 1 := ⟨gk - 1, by omega⟩
      have hqF : q < F.length := by have := HFN.out; omega
      obtain ⟨y, hy⟩ : ∃ y, y = F.getD q 0 := ⟨_, rfl⟩
      have hyd : 48 ≤ y ∧ y ≤ 102 := by
        rw [hy, List.getD_eq_getElem?_getD, List.getElem?_eq_getElem hqF]
        exact HDG.out _ (List.getElem_mem _)
      have hty : (F.take gk).getD q 0 = y := by
        rw [hy, List.getD_eq_getElem?_getD, List.getD_eq_getElem?_getD, List.getElem?_take, if_pos (by omega)]
      have hix : ∀ h : q < S.size, ((S[q]'h).toNat : Int) = y := by
        have h1 := HS.out
        subst h1
        intro h
        rw [str_at _ q (by rw [List.length_take]; omega) h (by rw [hty]; omega), hty]
      obtain ⟨S2, hS2⟩ : ∃ S2, S2 = strOfNums (F.take q) := ⟨_, rfl⟩
      have hcut : S.extract 0 q = S2 := by rw [HS.out, hS2]; exact str_cut F gk q (by omega)
      have HS2 := Aside0.mk hS2
      have hS2z : S2.size = q := by rw [hS2, strOfNums_sz, List.length_take]; omega
      have HY := Aside0.mk hy
      have HQ := Aside0.mk hq
      have hq1 : (gk : Int) - 1 = (q : Int) := by omega
      have hq1w : IntKind.i64.wrap (q : Int) = (q : Int) := IntWalk.i64_in _ (by omega)
      have hg0 : 0 < gk := by omega
      have hg0i : (0 : Int) < (gk : Int) := by omega
      have hq155 : q < 1000 := by omega
      have hqg : q < gk := by omega
      have hqg2 : q ≤ gk := by omega
      have hqf : q ≤ fl := by omega
      by_cases h48 : y = 48
      · subst h48
        have HZ2 : Aside0 (∀ j : Nat, q ≤ j → j < F.length → F.getD j 0 = (48 : Int)) := ⟨fun j h1 h2 => by
          rcases Nat.lt_or_ge q j with h3 | h3
          · exact HZ.out j (by omega) h2
          · obtain rfl : j = q := by omega
            exact HY.out.symm⟩
        clear hq hy hty hS2 hyd
        go_wp2_with (fail)
        go_roundg q
        case measure => exact hqg
        case rel => exact ⟨S2, by first | rfl | simp, hqf, HS2, hS2z, HZ2, rfl⟩
      · have hxb : (y == 48) = false := by rw [beq_eq_false_iff_ne]; exact h48
        have hrz : rz F = F.take gk := (rz_of F gk (by have := HFN.out; omega) HZ.out (.inr (by rw [hq, Nat.add_sub_cancel, ← hy]; exact h48))).symm
        have HTX : Aside0 (TT = strOfNums (sgn1 neg ++ [48, 120, 46] ++ F.take gk ++ [112] ++ signI E)) := ⟨by rw [HTT.out, HT.out, hrz]; simp only [List.append_assoc]⟩
        have hsn : (sgn1 neg).length ≤ 1 := by cases neg <;> simp [sgn1]
        have hsl : (signI E).length ≤ 19 := by
          unfold signI
          have := itoaT_lenS E.natAbs (by have := HE9.out; omega)
          rw [List.length_cons]; omega
        have htl : (F.take gk).length = gk := by rw [List.length_take]; have := HFN.out; omega
        obtain ⟨S4, h4⟩ : ∃ S, S = strOfNums (sgn1 neg) := ⟨_, rfl⟩
        obtain ⟨S5, h5⟩ : ∃ S, S = strOfNums (sgn1 neg ++ [48, 120, 46]) := ⟨_, rfl⟩
        obtain ⟨S6, h6⟩ : ∃ S, S = strOfNums (sgn1 neg ++ [48, 120, 46] ++ F.take gk) := ⟨_, rfl⟩
        obtain ⟨S7, h7⟩ : ∃ S, S = strOfNums (sgn1 neg ++ [48, 120, 46] ++ F.take gk ++ [112]) := ⟨_, rfl⟩
        obtain ⟨S8, h8⟩ : ∃ S, S = strOfNums (signI E) := ⟨_, rfl⟩
        have hp1 : (⟨#[48, 120, 46]⟩ : ByteArray) = strOfNums [48, 120, 46] := rfl
        have hp2 : (⟨#[112]⟩ : ByteArray) = strOfNums [112] := rfl
        have a1 : ∀ w, (Op.stringOp .add S4 ⟨#[48, 120, 46]⟩).run Tryz.prog w = .ok (.string S5) w := fun w => sadd1 (by rw [h4, h5, hp1, ← strOfNums_app]) (by rw [h4, hp1, strOfNums_sz, strOfNums_sz]; simp only [List.length_cons, List.length_nil]; omega) w
        have a2 : ∀ w, (Op.stringOp .add S5 S).run Tryz.prog w = .ok (.string S6) w := fun w => sadd1 (by rw [h5, h6, HS.out, ← strOfNums_app]) (by rw [h5, HS.out, strOfNums_sz, strOfNums_sz, List.length_append, htl]; simp only [List.length_cons, List.length_nil]; omega) w
        have a3 : ∀ w, (Op.stringOp .add S6 ⟨#[112]⟩).run Tryz.prog w = .ok (.string S7) w := fun w => sadd1 (by rw [h6, h7, hp2, ← strOfNums_app]) (by rw [h6, hp2, strOfNums_sz, strOfNums_sz, List.length_append, List.length_append, htl]; simp only [List.length_cons, List.length_nil]; omega) w
        have a4 : ∀ w, (Op.stringOp .add S7 S8).run Tryz.prog w = .ok (.string TT) w := fun w => sadd1 (by rw [h7, h8, HTX.out, ← strOfNums_app]) (by rw [h7, h8, strOfNums_sz, strOfNums_sz, List.length_append, List.length_append, List.length_append, htl]; simp only [List.length_cons, List.length_nil]; omega) w
        have HMN : Aside0 (∀ W, Calls Tryz.prog 23 #[.bool neg] W fun e w' => e = .returned (.string S4) ∧ Below W.heap.size W w') := ⟨fun W => by rw [h4]; exact minus_c neg W⟩
        rw [← h8] at HSG
        obtain ⟨d0, d1, d2, g0, g1, g2⟩ := blk3 KX4.out
        have lg4 := hp_lt KX4.out
        clear hq hy hty hS2 hyd hrz h4 h5 h6 h7 h8 hp1 hp2 hsn hsl htl hcut hS2z
        go_wp2_with (first | (go_at_call 23; refine (HMN.out _).mono ?_; rintro e w5 ⟨rfl, hb5⟩; have HB5 := Aside0.mk (below_step HB4.out hb5); clear hb5) | (go_at_call 24; refine (HSG.out _).mono ?_; rintro e w6 ⟨rfl, hb6⟩; have HB6 := Aside0.mk (below_step HB5.out hb6); clear hb6) | fail)
        go_ret
        exact ⟨rfl, HB6.out⟩
end Go.Proofs.YtnbnfjpecgbnpaaGreatDoor.Sp
