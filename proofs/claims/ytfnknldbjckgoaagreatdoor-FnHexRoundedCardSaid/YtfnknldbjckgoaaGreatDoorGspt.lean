/-
  MERGED BY PROGRAM (regroup.py): SpT, WholeC.
-/
import Derived.Test.YtfnknldbjckgoaaGreatDoorGspec
import Derived.Test.YtfnknldbjckgoaaGreatDoorGdec
import Derived.Test.YtfnknldbjckgoaaGreatDoorSpAll
import Derived.Test.YtfnknldbjckgoaaGreatDoorGtxb
/-! ## SpT -/
section
namespace Go.Proofs.YtfnknldbjckgoaaGreatDoor.Sp
open Go.RowKit Go.Proofs.YtfnknldbjckgoaaGreatDoorW.PrintWords Go.Proofs.YtfnknldbjckgoaaGreatDoorW.PrintLast Go.Proofs.YtfnknldbjckgoaaGreatDoorW.PrintMore Go.Proofs.YtfnknldbjckgoaaGreatDoor.Dig
set_option linter.unusedVariables false
set_option linter.unusedSimpArgs false
/-! ### Shl -/
theorem low_lt (o : List Int) (q s : Nat) (hq : q < o.length) (hok : okd BH o) (h : ev BH o < BH ^ q * 2 ^ s) : o.getD q 0 < 2 ^ s := by
  have h1 := ev_mid BH o q hq
  have h2 := ev_nonneg (okd_take hok q) BH_pos
  have h4 := Int.mul_nonneg (Int.le_of_lt BH_pos) (ev_nonneg (okd_drop hok (q + 1)) BH_pos)
  have hp := pow_pos BH_pos q
  have h5 : BH ^ q * o.getD q 0 ≤ BH ^ q * (o.getD q 0 + BH * ev BH (o.drop (q + 1))) := Int.mul_le_mul_of_nonneg_left (by omega) (Int.le_of_lt hp)
  exact Int.lt_of_mul_lt_mul_left (show BH ^ q * o.getD q 0 < BH ^ q * 2 ^ s by omega) (Int.le_of_lt hp)
theorem modmul (x : Int) (s : Nat) (hs : s ≤ 16) : x * 2 ^ s % 65536 ≤ 65536 - 2 ^ s := by
  have e : (65536 : Int) = 2 ^ s * 2 ^ (16 - s) := by rw [← Int.pow_add, show s + (16 - s) = 16 by omega]; rfl
  have hp0 : (0 : Int) < 2 ^ s := Int.pow_pos (by omega)
  have hp1 : (0 : Int) < 2 ^ (16 - s) := Int.pow_pos (by omega)
  rw [e, Int.mul_comm x, Int.mul_emod_mul_of_pos _ _ hp0]
  have h1 := Int.emod_lt_of_pos x hp1
  have h2 : 2 ^ s * (x % 2 ^ (16 - s) + 1) ≤ 2 ^ s * 2 ^ (16 - s) := Int.mul_le_mul_of_nonneg_left (by omega) (Int.le_of_lt hp0)
  rw [Int.mul_add, Int.mul_one] at h2
  omega
theorem shl_step (o l : List Int) (q s i : Nat) (hs : s < 16) (hi : i < l.length) (ho : o.length = q + l.length + 1) (hok : okd BH o) (hl : okd BH l) (he : ev BH o = BH ^ q * (ev BH (l.take i) * 2 ^ s)) (hz : ∀ j, q + i < j → o.getD j 0 = 0) :
    0 ≤ l.getD i 0 * 2 ^ s ∧ l.getD i 0 * 2 ^ s < 2147483648 ∧ 0 ≤ o.getD (q + i) 0 + l.getD i 0 * 2 ^ s % 65536 ∧ o.getD (q + i) 0 + l.getD i 0 * 2 ^ s % 65536 < 65536 ∧
      okd BH ((o.set (q + i) (o.getD (q + i) 0 + l.getD i 0 * 2 ^ s % 65536)).set (q + i + 1) (l.getD i 0 * 2 ^ s / 65536)) ∧
      ev BH ((o.set (q + i) (o.getD (q + i) 0 + l.getD i 0 * 2 ^ s % 65536)).set (q + i + 1) (l.getD i 0 * 2 ^ s / 65536)) = BH ^ q * (ev BH (l.take (i + 1)) * 2 ^ s) ∧
      ∀ j, q + (i + 1) < j → ((o.set (q + i) (o.getD (q + i) 0 + l.getD i 0 * 2 ^ s % 65536)).set (q + i + 1) (l.getD i 0 * 2 ^ s / 65536)).getD j 0 = 0 := by
  have hp2 : (2 : Int) ^ s ≤ 2 ^ 15 := pow_mono (by omega) (by omega)
  have hp0 : (0 : Int) < 2 ^ s := Int.pow_pos (by omega)
  have h15 : (2 : Int) ^ 15 = 32768 := rfl
  have hx := okd_get hl BH_pos i
  have hB := BH_def
  have hlo : o.getD (q + i) 0 < 2 ^ s := by
    refine low_lt o (q + i) s (by omega) hok ?_
    rw [he, Int.pow_add, Int.mul_assoc]
    refine Int.mul_lt_mul_of_pos_left ?_ (pow_pos BH_pos q)
    exact Int.mul_lt_mul_of_pos_right (ev_take_lt hl BH_pos i (by omega)).2 hp0
  have hlo0 := (okd_get hok BH_pos (q + i)).1
  have hm1 : l.getD i 0 * 2 ^ s ≤ 65535 * 2 ^ s := Int.mul_le_mul_of_nonneg_right (by omega) (Int.le_of_lt hp0)
  have hm0 : 0 ≤ l.getD i 0 * 2 ^ s := Int.mul_nonneg hx.1 (Int.le_of_lt hp0)
  have hmod := modmul (l.getD i 0) s (by omega)
  have hx2 : l.getD i 0 * 2 ^ s < 2147483648 := by omega
  have hz1 := hz (q + i + 1) (by omega)
  clear hp2 h15 hB
  generalize hX : l.getD i 0 * 2 ^ s = X at *
  have hlen1 : q + i < o.length := by omega
  refine ⟨hm0, hx2, by omega, by omega, ?_, ?_, ?_⟩
  · exact okd_set (okd_set hok _ (by omega) (by rw [BH_def]; omega)) _ (by omega) (by rw [BH_def]; omega)
  · rw [ev_set _ _ _ _ (by rw [List.length_set]; omega), ev_set _ _ _ _ hlen1, getD_set, if_neg (by omega), hz1, he, ev_take_succ _ _ _ hi, Int.pow_succ, Int.pow_add]
    have hqr := Int.emod_add_mul_ediv X 65536
    rw [← BH_def] at hqr ⊢
    clear hmod hz1 hz he hm0 hm1 hx2 hlo hlo0 hx hok hl ho hlen1 hi hs
    generalize X % BH = r at *
    generalize X / BH = d at *
    generalize ev BH (l.take i) = T at *
    generalize l.getD i 0 = x at *
    generalize o.getD (q + i) 0 = a at *
    generalize BH ^ q = P at *
    generalize BH ^ i = R at *
    generalize (2 : Int) ^ s = U at *
    subst hX
    clear hp0
    grind
  · intro j hj
    rw [getD_set, if_neg (by omega), getD_set, if_neg (by omega)]
    exact hz j (by omega)
/-! ### byDigit -/
theorem dig_l (l : List Int) (hl : okd BH l) (hlen : l.length < 1099511627776) (D : Int) (hD0 : 0 < D) (hD1 : D < 65536) (d : Nat) : ∀ (out : List Int) (rest : Int), d ≤ l.length → out.length = l.length → okd BH out → 0 ≤ rest → rest < D →
    ev BH (l.drop d) = ev BH (out.drop d) * D + rest → ∀ k, d + l.length + 1 < k → ∃ q r, spec_byDigit.l0 k l D out rest ((d : Int) - 1) = some (q, r) ∧ Cn BH q ∧ ev BH l = ev BH q * D + r ∧ 0 ≤ r ∧ r < D := by
  induction d with
  | zero =>
    intro out rest _ ho hok h0 h1 he k hk
    obtain ⟨k, rfl⟩ : ∃ m, k = m + 1 := ⟨k - 1, by omega⟩
    obtain ⟨s1, s2, _⟩ := strip_cn out hok
    refine ⟨strip out, rest, ?_, s1, by rw [s2]; simpa using he, h0, h1⟩
    simp only [spec_byDigit.l0]
    rw [if_neg (by omega)]
    show (spec_trim.l0 k out).bind _ = _
    rw [trim_l out (by omega) k (by omega)]
    rfl
  | succ d ih =>
    intro out rest hd ho hok h0 h1 he k hk
    obtain ⟨k, rfl⟩ : ∃ m, k = m + 1 := ⟨k - 1, by omega⟩
    have e : (((d + 1 : Nat) : Int) - 1) = (d : Int) := by omega
    have e2 : wrap64 ((d : Int) - 1) = (d : Int) - 1 := w64 (by omega) (by omega)
    have hx := okd_get hl BH_pos d
    rw [BH_def] at hx
    have e3 : wrap64 (rest * 65536) = rest * 65536 := w64 (by omega) (by omega)
    have e4 : wrap64 (rest * 65536 + l.getD d 0) = rest * 65536 + l.getD d 0 := w64 (by omega) (by omega)
    obtain ⟨c, hc⟩ : ∃ c, c = rest * 65536 + l.getD d 0 := ⟨_, rfl⟩
    have hc0 : 0 ≤ c := by omega
    have hc1 : c < D * 65536 := by
      have : (rest + 1) * 65536 ≤ D * 65536 := Int.mul_le_mul_of_nonneg_right (by omega) (by omega)
      omega
    have hq0 : 0 ≤ c / D := Int.ediv_nonneg hc0 (by omega)
    have hq1 : c / D < 65536 := Int.ediv_lt_of_lt_mul hD0 (by rw [Int.mul_comm]; exact hc1)
    have e5 : wrap64 (c / D) = c / D := w64 (by omega) (by omega)
    have hr0 := Int.emod_nonneg c (show D ≠ 0 by omega)
    have hr1 := Int.emod_lt_of_pos c hD0
    have hqr := Int.emod_add_mul_ediv c D
    have tq : Int.tdiv c D = c / D := Int.tdiv_eq_ediv_of_nonneg hc0
    have tr : Int.tmod c D = c % D := Int.tmod_eq_emod_of_nonneg hc0
    simp only [spec_byDigit.l0]
    rw [e, if_pos (by omega), if_pos (by omega), if_pos (by omega), if_neg (by omega), if_pos (by omega), rd_nat, e3, e4, ← hc, tq, tr, e5, e2, Int.toNat_natCast]
    clear tq tr
    refine ih (out.set d (c / D)) (c % D) (by omega) (by simpa using ho) (okd_set hok d hq0 (by rw [BH_def]; exact hq1)) hr0 hr1 ?_ k (by omega)
    rw [drop_cons l d (by omega), drop_cons (out.set d (c / D)) d (by rw [List.length_set]; omega), rd_set_self _ _ _ (by omega), List.drop_set_of_lt (by omega), ev_cons, ev_cons, he]
    have hB := BH_def
    rw [show l.getD d 0 = c - rest * BH by rw [hB]; omega]
    clear ih he hok hl hx hc1 hq1 e e2 e3 e4 e5 hc hq0 hr0 hr1
    generalize c / D = q at *
    generalize c % D = r at *
    generalize ev BH (List.drop (d + 1) out) = T
    clear hk hd ho hlen hD0 hD1 hB h0 h1 hc0
    grind
theorem dig_ev (l : List Int) (hl : Cn BH l) (hlen : l.length < 1099511627776) (D : Int) (hD0 : 0 < D) (hD1 : D < 65536) : ∃ q r, Ev (fun k => spec_byDigit.f k l D) (q, r) ∧ Cn BH q ∧ ev BH l = ev BH q * D + r ∧ 0 ≤ r ∧ r < D := by
  obtain ⟨q, r, h, h2⟩ := dig_l l hl.ok hlen D hD0 hD1 l.length (List.replicate l.length 0) 0 (Nat.le_refl _) (by simp) (okd_replicate _ BH_pos) (by omega) hD0 (by simp [ev_nil]) (l.length + l.length + 2) (by omega)
  refine ⟨q, r, Ev.of (spec_byDigit.mono l D) (k := l.length + l.length + 2) ?_, h2⟩
  have e2 : wrap64 ((l.length : Int) - 1) = (l.length : Int) - 1 := w64 (by omega) (by omega)
  show (if 0 ≤ (l.length : Int) then (if ((l.length : Int) : Int).toNat ≤ 35184372088832 then (spec_byDigit.l0 (l.length + l.length + 2) l D (List.replicate ((l.length : Int) : Int).toNat 0) 0 (wrap64 ((l.length : Int) - 1))) else none) else none) = _
  rw [if_pos (by omega), if_pos (by simp; omega), e2, Int.toNat_natCast, h]
/-! ### Digits, plain -/
theorem strOfNums_app (l m : List Int) : strOfNums (l ++ m) = strOfNums l ++ strOfNums m := by
  apply ByteArray.ext
  rw [ByteArray.data_append]
  apply Array.toList_inj.1
  simp [strOfNums]
theorem strOfNums_sz (l : List Int) : (strOfNums l).size = l.length := by
  rw [← ByteArray.size_data]
  simp [strOfNums]
theorem itoaT_lenS (n : Nat) (h : n < 10 ^ 18) : (itoaT n).length ≤ 18 := by
  unfold itoaT
  split
  · simp
  · exact figs_len 10 18 n (by omega) h
theorem figs10 (n : Nat) (h : 0 < n) : figs 10 n = figs 10 (n / 10) ++ [fig (n % 10)] := (figs_succ 10 n (by omega) (by omega) h).1
theorem digits_l (d : Nat) : ∀ (n : Nat) (l : List Int) (acc : List Int), n < 10 ^ d → Cn BH l → ev BH l = (n : Int) → l.length ≤ 100000 → acc.length + d ≤ 1000000 → Ev (fun k => spec_Digits.l0 k l (strOfNums acc)) (strOfNums (figs 10 n ++ acc)) := by
  induction d with
  | zero =>
    intro n l acc hn hc he hl ha
    have hn0 : n = 0 := by simpa using hn
    subst hn0
    have hl0 : l = [] := Cn_zero hc BH_pos he
    subst hl0
    rw [figs_zero, List.nil_append]
    exact Ev.step (f := fun _ => some (strOfNums acc)) (fun k => rfl) (Ev.now _)
  | succ d ih =>
    intro n l acc hn hc he hl ha
    by_cases hn0 : n = 0
    · subst hn0
      have hl0 : l = [] := Cn_zero hc BH_pos he
      subst hl0
      rw [figs_zero, List.nil_append]
      exact Ev.step (f := fun _ => some (strOfNums acc)) (fun k => rfl) (Ev.now _)
    · have hll : 0 < l.length := by
        rcases Nat.eq_zero_or_pos l.length with h | h
        · rw [List.eq_nil_of_length_eq_zero h, ev_nil] at he; omega
        · exact h
      obtain ⟨q, r, hq, hqc, hqe, hr0, hr1⟩ := dig_ev l hc (by omega) 10 (by omega) (by omega)
      have hqn : ev BH q = ((n / 10 : Nat) : Int) := by omega
      have hrn : r = ((n % 10 : Nat) : Int) := by omega
      have hql : q.length ≤ 100000 := by
        rcases Nat.lt_or_ge q.length l.length with h | h
        · omega
        · rcases Nat.lt_or_ge l.length q.length with h2 | h2
          · have := len_lt_ev hc hqc h2
            omega
          · omega
      have hw : wrap64 (48 + r) % 256 = fig (n % 10) := by
        rw [w64 (by omega) (by omega), fig_dec _ (Nat.mod_lt n (by omega)), hrn]; omega
      have hi := ih (n / 10) q (fig (n % 10) :: acc) (by rw [Nat.pow_succ] at hn; omega) hqc hqn hql (by simp only [List.length_cons]; omega)
      rw [figs10 n (by omega), List.append_assoc]
      refine Ev.step (f := fun k => (spec_byDigit.f k l 10).bind fun bt => ((some (([(wrap64 (48 + bt.2)) % 256] : List Int) : List Int)).bind fun y => (if (strOfNums y).size + (strOfNums acc).size ≤ 9223372036854775807 then (spec_Digits.l0 k bt.1 ((strOfNums y) ++ (strOfNums acc))) else (none)))) (fun k => ?_) ?_
      · simp only [spec_Digits.l0]
        rw [if_pos (by omega)]
      · refine Ev.bind hq ?_
        refine Ev.congr (f := fun k => spec_Digits.l0 k q (strOfNums (fig (n % 10) :: acc))) (fun k => ?_) hi
        show (if (strOfNums [wrap64 (48 + r) % 256]).size + (strOfNums acc).size ≤ 9223372036854775807 then _ else _) = _
        rw [hw, strOfNums_sz, strOfNums_sz, if_pos (by simp only [List.length_cons, List.length_nil]; omega), ← strOfNums_app]
        rfl
theorem digits_ev (n : Nat) (d : Nat) (hd : n < 10 ^ d) (h9 : d ≤ 100000) (l : List Int) (hc : Cn BH l) (he : ev BH l = (n : Int)) (hl : l.length ≤ 100000) : Ev (fun k => spec_Digits.f k l) (strOfNums (itoaT n)) := by
  by_cases hn0 : n = 0
  · subst hn0
    have hl0 : l = [] := Cn_zero hc BH_pos he
    subst hl0
    exact Ev.now _
  · have hll : 0 < l.length := by
      rcases Nat.eq_zero_or_pos l.length with h | h
      · rw [List.eq_nil_of_length_eq_zero h, ev_nil] at he; omega
      · exact h
    have h := digits_l d n l [] hd hc he hl (by simp; omega)
    rw [List.append_nil] at h
    unfold itoaT
    rw [if_neg hn0]
    refine Ev.congr (fun k => ?_) h
    unfold spec_Digits.f
    rw [if_neg (by omega)]
    rfl
end Go.Proofs.YtfnknldbjckgoaaGreatDoor.Sp
end

/-! ## WholeC -/
section
namespace Go.Proofs.YtfnknldbjckgoaaGreatDoor.Sp
open Go.RowKit Go.Proofs.YtfnknldbjckgoaaGreatDoorW.PrintWords Go.Proofs.YtfnknldbjckgoaaGreatDoorW.PrintLast Go.Proofs.YtfnknldbjckgoaaGreatDoorW.PrintMore Go.Proofs.YtfnknldbjckgoaaGreatDoor.Dig
set_option linter.unusedVariables false
set_option linter.unusedSimpArgs false
theorem fit_pow {M p : Nat} (h : M < 2 ^ p) : (M : Int) < 2 ^ p := by
  have := Int.ofNat_lt.2 h
  rwa [Int.natCast_pow] at this
set_option maxHeartbeats 1600000 in
set_option maxRecDepth 100000 in
theorem shl_any (P : Nat → Prop) (A : Option Addr) (c : Nat) (l : List Int) (q s : Nat) (hs : s < 16) (hq : q ≤ 1000000000) (hl : Cn BH l) (hlen : l.length ≤ 1000000000) (w : World) (hv : Kd.V (Kd.int .i64) 3 w w.heap.size P (.slice A l.length c) l) :
    Calls Tryz.prog 30 #[.slice A l.length c, .int .i64 ((16 * q + s : Nat) : Int)] w fun e w' => ∃ r v, e = .returned v ∧ Kd.V (Kd.int .i64) 3 w' w.heap.size (fun k => P k ∨ w.heap.size ≤ k) v r ∧ Cn BH r ∧ ev BH r = ev BH l * 2 ^ (16 * q + s) ∧ Below w.heap.size w w' := by
  have HV := Aside0.mk hv
  have HL := Aside0.mk hl
  clear hv hl
  by_cases h0 : l.length = 0
  · have hl : l = [] := List.eq_nil_of_length_eq_zero h0
    subst hl
    go_enter Tryz.func30, Tryz.ntmps30
    go_wp2
    go_ret
    exact ⟨[], _, rfl, Kd.V_mono HV.out (fun k hk => .inl hk), Cn_nil _, by rw [ev_nil]; simp, Below.refl _ _⟩
  · have hb0 : ((l.length : Int) == 0) = false := by simpa using h0
    obtain ⟨n, hn⟩ : ∃ n : Int, n = ((16 * q + s : Nat) : Int) := ⟨_, rfl⟩
    rw [← hn]
    have d1 : n / 16 = (q : Int) := by omega
    have d2 : n % 16 = (s : Int) := by omega
    have d3 : 0 ≤ n := by omega
    have d4 : n ≤ 16000000015 := by omega
    clear hn
    have hmk := make_ints 28 3 .i64 8 Tryz.underlying28 info3 (by omega) ((q : Int) + l.length + 1) ((q : Int) + l.length + 1) (by omega) (by omega) (by omega)
    have d6 : (((q : Int) + l.length + 1).toNat) = q + l.length + 1 := by omega
    go_enter Tryz.func30, Tryz.ntmps30
    go_wp2
    go_loopw [21] (fun v21 wr => ∃ (i : Int) (o : List Int), 0 ≤ i ∧ i ≤ l.length ∧ v21 = .int .i64 i ∧ Aside0 (hp wr w.heap.size = some (.cells (i64s o) 3 (0, 0)) ∧ o.length = q + l.length + 1 ∧ okd BH o ∧ ev BH o = BH ^ q * (ev BH (l.take i.toNat) * 2 ^ s) ∧ ∀ j, q + i.toNat < j → o.getD j 0 = 0) ∧ Aside0 (Below w.heap.size w wr)) (fun i _ => l.length - (intOf i).toNat)
    case atStart =>
      exact ⟨0, List.replicate (q + l.length + 1) 0, by omega, by omega, rfl, ⟨by rw [i64s_rep]; exact hp_new w _ _ rfl, by simp, okd_replicate _ BH_pos, by rw [ev_replicate]; simp [ev_nil], fun j _ => by simp [List.getD, List.getElem?_replicate]; split <;> rfl⟩, ⟨(Below.refl _ _).alloc (Nat.le_refl _) _⟩⟩
    case round =>
      obtain ⟨i, o, i0, i1, rfl, HO, HB⟩ := hrel
      by_cases hlt : i < l.length
      · obtain ⟨ad, e, hx⟩ := Kd.at_int (Kd.V_reads' HV.out).2.2 i i0 hlt
        cases e
        replace hx := (HB.out.cell (World.block_lt_of_cell? w _ hx)).trans hx
        obtain ⟨ho, hol, hok, he, hz⟩ := HO.out
        obtain ⟨m0, m1, a0, a1, k1, k2, k3⟩ := shl_step o l q s i.toNat hs (by omega) hol hok HL.out.ok he hz
        have c1 : wr.cell? ⟨w.heap.size, q + i.toNat, none⟩ = some (.int .i64 (o.getD (q + i.toNat) 0)) := (blk_cell ho _).trans (i64s_get o _ (by omega))
        have c2 : wr.cell? ⟨w.heap.size, q + i.toNat + 1, none⟩ = some (.int .i64 (o.getD (q + i.toNat + 1) 0)) := (blk_cell ho _).trans (i64s_get o _ (by omega))
        have f1 : wr.frozen? ⟨w.heap.size, q + i.toNat, none⟩ = false := blk_frozen ho _
        have f2 : wr.frozen? ⟨w.heap.size, q + i.toNat + 1, none⟩ = false := blk_frozen ho _
        have hrd : rd l i = l.getD i.toNat 0 := rfl
        obtain ⟨x, hxx⟩ : ∃ x, x = l.getD i.toNat 0 := ⟨_, rfl⟩
        rw [← hxx] at m0 m1 a0 a1 k1 k2 k3
        obtain ⟨X, hX⟩ : ∃ X, X = x * 2 ^ s := ⟨_, rfl⟩
        obtain ⟨a, ha⟩ : ∃ a, a = o.getD (q + i.toNat) 0 := ⟨_, rfl⟩
        rw [← hX] at m0 m1 a0 a1 k1 k2 k3
        rw [← ha] at a0 a1 k1 k2 k3 c1
        rw [hrd, ← hxx] at hx
        have wX : wrap64 (x * 2 ^ s) = X := by rw [← hX]; exact w64 (by omega) (by omega)
        have HO2 : Aside0 (hp ((wr.setCell ⟨w.heap.size, q + i.toNat, none⟩ (.int .i64 (a + X % 65536))).setCell ⟨w.heap.size, q + i.toNat + 1, none⟩ (.int .i64 (X / 65536))) w.heap.size = some (.cells (i64s ((o.set (q + i.toNat) (a + X % 65536)).set (q + i.toNat + 1) (X / 65536))) 3 (0, 0)) ∧
            ((o.set (q + i.toNat) (a + X % 65536)).set (q + i.toNat + 1) (X / 65536)).length = q + l.length + 1 ∧ okd BH ((o.set (q + i.toNat) (a + X % 65536)).set (q + i.toNat + 1) (X / 65536)) ∧ ev BH ((o.set (q + i.toNat) (a + X % 65536)).set (q + i.toNat + 1) (X / 65536)) = BH ^ q * (ev BH (l.take (i + 1).toNat) * 2 ^ s) ∧ ∀ j, q + (i + 1).toNat < j → ((o.set (q + i.toNat) (a + X % 65536)).set (q + i.toNat + 1) (X / 65536)).getD j 0 = 0) := by
          have e1 : (i + 1).toNat = i.toNat + 1 := by omega
          rw [e1]
          exact ⟨by rw [hp_here _ _ _ _ _ rfl, hp_here _ _ _ _ _ rfl, ho]; simp only [Option.map_some, setObj_cells, i64s_set], by simp [hol], k1, k2, k3⟩
        have HB2 := Aside0.mk ((HB.out.setCell (p := ⟨w.heap.size, q + i.toNat, none⟩) (Nat.le_refl _) (.int .i64 (a + X % 65536))).setCell (p := ⟨w.heap.size, q + i.toNat + 1, none⟩) (Nat.le_refl _) (.int .i64 (X / 65536)))
        have e3 : ((q : Int) + i).toNat = q + i.toNat := by omega
        have e4 : ((q : Int) + i + 1).toNat = q + i.toNat + 1 := by omega
        have b1 : (q : Int) + i < ((q + l.length + 1 : Nat) : Int) := by omega
        have b2 : (q : Int) + i + 1 < ((q + l.length + 1 : Nat) : Int) := by omega
        clear ho hol hok he hz k1 k2 k3 hX ha hrd HO hxx
        go_wp2
        go_roundw
        case rel => first | exact ⟨i + 1, _, by omega, by omega, rfl, HO2, HB2⟩ | fail
        case measure => simp [intOf]; omega
      · have hi : i.toNat = l.length := by omega
        obtain ⟨ho, hol, hok, he, hz⟩ := HO.out
        rw [hi, List.take_length] at he
        go_wp2_with (fail)
        obtain ⟨K, hK⟩ := trim_ev o (by omega)
        obtain ⟨s1, s2, _⟩ := strip_cn o hok
        have hvo : Kd.V (Kd.int .i64) 3 wr wr.heap.size (fun k => w.heap.size ≤ k) (.slice (some ⟨w.heap.size, 0, none⟩) o.length (q + l.length + 1)) o := blk_V ho rfl (by omega) (by omega) (Nat.le_refl _) (fun i hi => by rw [Nat.zero_add]; exact i64s_get o i hi)
        have hT := spec_trim.calls K (fun k => w.heap.size ≤ k) (some ⟨w.heap.size, 0, none⟩) (q + l.length + 1) o (strip o) wr hvo (hK K (Nat.le_refl _))
        rw [hol] at hT
        refine hT.mono ?_
        rintro e w1 ⟨v, rfl, hv1, hb1⟩
        have HE := Aside0.mk (show Cn BH (strip o) ∧ ev BH (strip o) = ev BH l * 2 ^ (16 * q + s) from ⟨s1, by rw [s2, he, Int.pow_add, Int.pow_mul, ← BH_two]; grind⟩)
        have HV1 := Aside0.mk hv1
        have HB1 := Aside0.mk (below_step HB.out hb1)
        have hsz := HB.out.size
        clear ho hol hok he hz hvo hK hv1 hb1 s1 s2 hT
        go_wp2_with (fail)
        go_ret
        exact ⟨_, _, rfl, Kd.V_mono (Kd.V_lower HV1.out hsz) (fun k hk => .inr (by omega)), HE.out.1, HE.out.2, HB1.out⟩
theorem shl_c (v : Value) (a n : Int) (w : World) (h : Dg w v a) (ha : a < Lim) (h0 : 0 ≤ n) (h1 : n ≤ 1000000000) : Calls Tryz.prog 30 #[v, .int .i64 n] w fun e w' => ∃ v, e = .returned v ∧ Dg w' v (a * 2 ^ n.toNat) ∧ Below w.heap.size w w' := by
  obtain ⟨A, c, l, rfl, h2, h3, h4, h5⟩ := h
  subst h5
  have := Lim_len h4 ha
  have e : n = ((16 * (n.toNat / 16) + n.toNat % 16 : Nat) : Int) := by omega
  have e2 : 16 * (n.toNat / 16) + n.toNat % 16 = n.toNat := by omega
  have h := shl_any (fun _ => True) A c l (n.toNat / 16) (n.toNat % 16) (by omega) (by omega) h4 (by omega) w (V_of_C h3 h2)
  rw [← e, e2] at h
  refine h.mono ?_
  rintro e w' ⟨r, v, rfl, hv, hc, he, hb⟩
  exact ⟨v, rfl, Dg.of_V hv hc he, hb⟩
theorem minus_c (neg : Bool) (w : World) : Calls Tryz.prog 32 #[.bool neg] w fun e w' => e = .returned (.string (strOfNums (sgn1 neg))) ∧ Below w.heap.size w w' := by
  refine (spec_minus.calls neg (strOfNums (sgn1 neg)) w ?_).mono ?_
  · cases neg <;> rfl
  · rintro e w' ⟨rfl, h⟩
    exact ⟨rfl, h.below⟩
theorem len_is (v : Value) (a : Int) (b : Nat) (w : World) (h : Dg w v a) (ha : a < Lim) (hb : Bits a b) : Calls Tryz.prog 16 #[v] w fun e w' => e = .returned (.int .i64 b) ∧ Below w.heap.size w w' := by
  refine (len_c _ a w h ha).mono ?_
  rintro e w' ⟨n, rfl, hn, _, hb2⟩
  obtain rfl := hn.uniq hb
  exact ⟨rfl, hb2⟩
theorem sadd1 {a b c : ByteArray} (h : c = a ++ b) (hs : a.size + b.size ≤ 100000) (w : World) : (Op.stringOp .add a b).run Tryz.prog w = .ok (.string c) w := by
  rw [h]; exact run_string_add_sum w a b (by omega)
end Go.Proofs.YtfnknldbjckgoaaGreatDoor.Sp
end
