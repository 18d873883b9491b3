/-
  CONTRACT of Float.Append at a finite Float in the formats e, E, f, g, G.
-/
import Derived.Test.YtfnknldbjckgoaaGreatDoorZGfmt
import Derived.Test.YtfnknldbjckgoaaGreatDoorZGtxb
namespace Go.Proofs.YtfnknldbjckgoaaGreatDoor.Sp
open Go.RowKit Go.Proofs.YtfnknldbjckgoaaGreatDoorW.PrintWords Go.Proofs.YtfnknldbjckgoaaGreatDoorW.PrintLast Go.Proofs.YtfnknldbjckgoaaGreatDoorW.PrintMore Go.Proofs.YtfnknldbjckgoaaGreatDoor.Dig
set_option linter.unusedVariables false
set_option linter.unusedSimpArgs false
theorem Bu.keptS {S : Nat → Prop} {W0 w w' : World} {v : Value} {l : List Int} (h : Bu W0 w v l) (hk : Kept S w w') (hS : ∀ i, S i → W0.heap.size ≤ i) (hv : ∀ i, v.ownBlock = some i → ¬ S i) : Bu W0 w' v l := by
  refine ⟨?_, h.bel.trans (hk.below hS h.bel.size)⟩
  refine ⟨h.own.1, ?_⟩
  rcases h.own.2 with h1 | ⟨g, cap, cur, rfl, hbg, hb, hr⟩
  · exact .inl h1
  · refine .inr ⟨g, cap, cur, rfl, hbg, ?_, hr⟩
    exact hp_kept hb hk (hv g (by simp [Value.ownBlock]))
/-- What the second step of Append leaves: the decimal, the number of figures, whether it is the shortest. -/
def st2 (d0 ds : List Int × Int) (ch k : Int) : (List Int × Int) × Int × Bool :=
  if ch = 101 ∨ ch = 69 then (if k < 0 then (ds, (ds.1.length : Int) - 1, true) else (roundD d0 (1 + k), k, false))
  else if ch = 102 then (if k < 0 then (ds, max ((ds.1.length : Int) - ds.2) 0, true) else (roundD d0 (d0.2 + k), k, false))
  else (if k < 0 then (ds, (ds.1.length : Int), true) else (roundD d0 (if k = 0 then 1 else k), if k = 0 then 1 else k, false))
/-- What is written of it. -/
def st3 (s : (List Int × Int) × Int × Bool) (ch : Int) : List Int :=
  if ch = 101 ∨ ch = 69 then fmtET s.1 ch s.2.1 else if ch = 102 then fmtFT s.1 s.2.1 else fmtGT s.1 ch s.2.1 s.2.2
theorem decT_st (d0 ds : List Int × Int) (ch k : Int) : decT d0 ds ch k = st3 (st2 d0 ds ch k) ch := by
  unfold decT st3 st2
  split
  · split <;> rfl
  · split
    · split <;> rfl
    · split <;> rfl
theorem lt_pow {a n m : Nat} (h : a < 2 ^ n) (hn : n ≤ m) : a < 2 ^ m := Nat.lt_of_lt_of_le h (Nat.pow_le_pow_right (by decide) hn)
/-- Bounds of a decimal that is written. -/
structure DBd (d : List Int × Int) : Prop where
  dc : Dc d.1
  len : d.1.length ≤ 8000
  lo : -1200000 ≤ d.2
  hi : d.2 ≤ 1001
theorem DBd.digs {d : List Int × Int} (h : DBd d) : ∀ c ∈ d.1, 48 ≤ c ∧ c ≤ 57 := h.dc.dig
theorem bits_top {p : Nat} {L : List Int} (h : Canon p L) : Bits (ev BW L) (64 * L.length) := by
  have h1 := top_range h.ok h.pos h.top
  exact ⟨by have := h.V_pos; omega, h1.2, .inr h1.1⟩
/-- The plain facts of the decimal path. -/
structure DPre (L : List Int) (vN b : Nat) (x : Int) (B N0 : Nat) (sh : Int) : Prop where
  nv : ev BW L = (N0 : Int)
  pos : 0 < N0
  fit : Fit (initM N0 sh).1
  eq : initD N0 sh = initD vN x
  bd : DBd (initD vN x) ∧ (initD vN x).2 ≤ 1000 ∧ -1100000 ≤ (initD vN x).2
theorem dpre {L : List Int} {vN b p : Nat} {x : Int} (hev : ev BW L = (vN : Int) * 2 ^ (64 * L.length - b)) (hv0 : 0 < vN) (hbits : Bits (vN : Int) b) (hbp : b ≤ p) (hp : p ≤ 200) (hb : b ≤ 64 * L.length) (h64 : 64 * L.length < b + 64) (hx : -300 ≤ x ∧ x ≤ 300) : ∃ N0 sh, sh = (b : Int) + x - ((64 * L.length : Nat) : Int) ∧ DPre L vN b x (64 * L.length) N0 sh := by
  have hvb : vN < 2 ^ b := Int.ofNat_lt.1 (by rw [Int.natCast_pow]; exact hbits.2.1)
  have hN : vN * 2 ^ (64 * L.length - b) < 2 ^ (64 * L.length) := by
    have h1 := Nat.mul_lt_mul_of_pos_right hvb (Nat.two_pow_pos (64 * L.length - b))
    rw [← Nat.pow_add, Nat.add_sub_cancel' hb] at h1
    exact h1
  have hN0 : 0 < vN * 2 ^ (64 * L.length - b) := Nat.mul_pos hv0 (Nat.two_pow_pos _)
  refine ⟨vN * 2 ^ (64 * L.length - b), _, rfl, ⟨?_, hN0, ?_, ?_, ?_⟩⟩
  · rw [hev, Int.natCast_mul, Int.natCast_pow]; rfl
  · unfold initM
    split
    · refine fit_of (p := 64 * L.length) (Nat.lt_of_le_of_lt (Nat.div_le_self _ _) hN) (by omega)
    · rename_i hsh
      have h1 := Nat.mul_lt_mul_of_pos_right hN (Nat.two_pow_pos ((b : Int) + x - ((64 * L.length : Nat) : Int)).toNat)
      rw [← Nat.pow_add] at h1
      exact fit_of h1 (by omega)
  · have h1 := initD_shift vN (64 * L.length - b) x hv0
    rw [← h1]
    congr 1
    omega
  · obtain ⟨g1, g2, g3, g4⟩ := initD_inv vN x hv0 (lt_pow (m := 512) hvb (by omega)) (fun hx0 => by
      have h1 := Nat.mul_lt_mul_of_pos_right hvb (Nat.two_pow_pos x.toNat)
      rw [← Nat.pow_add] at h1
      exact lt_pow (m := 512) h1 (by omega)) (by omega)
    exact ⟨⟨g1, g2, by omega, by omega⟩, g4, g3⟩
theorem roundD_bd {d : List Int × Int} (h : DBd d) (hi : d.2 ≤ 1000) (n : Int) (hn : 0 < n) : DBd (roundD d n) := by
  obtain ⟨h1, h2⟩ := roundD_len d n
  have h3 := h.len; have h4 := h.lo
  exact ⟨roundD_dc d n h.dc hn, by omega, by omega, by omega⟩
/-- Bounds of the second step. -/
structure SBd (s : (List Int × Int) × Int × Bool) (ch : Int) : Prop where
  len : s.1.1.length ≤ 8000
  lo : -1200000 ≤ s.1.2
  hi : s.1.2 ≤ 1001
  klo : -1 ≤ s.2.1
  khi : s.2.1 ≤ 1300000
  ne : ch ≠ 102 → 0 < s.1.1.length ∧ s.2.1 ≤ 8000 ∧ DBd s.1
theorem st2_bd (d0 ds : List Int × Int) (ch k : Int) (h0 : DBd d0) (hi : d0.2 ≤ 1000) (hs : k < 0 → DBd ds) (hk : -10 ≤ k ∧ k ≤ 1000) : SBd (st2 d0 ds ch k) ch := by
  unfold st2
  by_cases hk0 : k < 0
  · have h := hs hk0
    have h1 := h.len; have h2 := h.lo; have h3 := h.hi; have h4 := h.dc.pos
    rw [if_pos hk0, if_pos hk0, if_pos hk0]
    split
    · exact ⟨h1, h2, h3, by simp only; omega, by simp only; omega, fun _ => ⟨h4, by simp only; omega, h⟩⟩
    · split
      · rename_i h5
        exact ⟨h1, h2, h3, by simp only; omega, by simp only; omega, fun h6 => absurd h5 h6⟩
      · exact ⟨h1, h2, h3, by simp only; omega, by simp only; omega, fun _ => ⟨h4, by simp only; omega, h⟩⟩
  · rw [if_neg hk0, if_neg hk0, if_neg hk0]
    split
    · have h := roundD_bd h0 hi (1 + k) (by omega)
      exact ⟨h.len, h.lo, h.hi, by simp only; omega, by simp only; omega, fun _ => ⟨h.dc.pos, by simp only; omega, h⟩⟩
    · split
      · rename_i h5
        obtain ⟨g1, g2⟩ := roundD_len d0 (d0.2 + k)
        have h1 := h0.len; have h2 := h0.lo; have h3 := h0.hi
        exact ⟨by simp only; omega, by simp only; omega, by simp only; omega, by simp only; omega, by simp only; omega, fun h6 => absurd h5 h6⟩
      · obtain ⟨K, hK⟩ : ∃ K : Int, K = if k = 0 then 1 else k := ⟨_, rfl⟩
        have hK1 : 1 ≤ K ∧ K ≤ 1000 := by split at hK <;> omega
        rw [← hK]
        have h := roundD_bd h0 hi K (by omega)
        exact ⟨h.len, h.lo, h.hi, by simp only; omega, by simp only; omega, fun _ => ⟨h.dc.pos, by simp only; omega, h⟩⟩
set_option maxHeartbeats 12800000 in
set_option maxRecDepth 100000 in
theorem appD_c (g p vN b : Nat) (m x k ch : Int) (neg : Bool) (w0 W0 w : World) (v : Value) (l : List Int) (h : Own w0 W0 g p m neg (vN : Int) x b) (hv0 : 0 < vN) (hbits : Bits (vN : Int) b) (hbp : b ≤ p) (hp : p ≤ 200) (hx : -300 ≤ x ∧ x ≤ 300) (hb : Bu W0 w v l) (hl : l.length ≤ 900000) (hT : Pw W0) (hL : Leaf W0) (hTb : Tb W0) (hk : -10 ≤ k ∧ k ≤ 1000)
    (hch : ch = 101 ∨ ch = 69 ∨ ch = 102 ∨ ch = 103 ∨ ch = 71) (hds : k < 0 → DBd (shortV vN b p x))
    (HRS : k < 0 → ∀ W bb g1 R1, Below W0.heap.size W0 W → W0.heap.size ≤ bb → DX W bb g1 (initD vN x).1 R1 (initD vN x).2 → Calls Tryz.prog 53 #[.pointer (some ⟨bb, 0, none⟩), .pointer (some ⟨g, 0, none⟩)] W (DxPost W bb g1 (shortV vN b p x))) :
    Calls Tryz.prog 38 #[.pointer (some ⟨g, 0, none⟩), v, .int .u8 ch, .int .i64 k] w (BuPost W0 ((l ++ sgn1 neg) ++ finT vN b p x ch k)) := by
  obtain ⟨mb, L, R, c, hF, hC, hev, h64, hb64⟩ := h.flt
  have hlc := hF.lec
  have hl0 : 0 < L.length := hC.pos
  have hl9 : L.length ≤ 4 := by omega
  obtain ⟨N0, sh, hsh, hP⟩ := dpre hev hv0 hbits hbp hp hb64 h64 hx
  have HP := Aside0.mk hP
  have HFA : Aside0 (∀ W, Below W0.heap.size W0 W → Flt W g mb p m 0 1 neg L.length c ((b : Int) + x) (L ++ R)) := ⟨fun W hW => hF.below hW⟩
  have HLA : Aside0 (∀ W, Below W0.heap.size W0 W → Leaf W) := ⟨fun W hW => hL.below hW⟩
  have HTA : Aside0 (∀ W, Below W0.heap.size W0 W → Tb W) := ⟨fun W hW => hTb.kept (Kept.of_below (S := fun _ => False) hW) (fun h => h)⟩
  have HPW : Aside0 (Pw W0) := ⟨hT⟩
  have HTOP : Aside0 (Canon p L) := ⟨hC⟩
  have HB := Aside0.mk hb
  have HN := Aside0.mk hl
  obtain ⟨B, hB⟩ : ∃ B, B = 64 * L.length := ⟨_, rfl⟩
  rw [← hB] at hsh
  have HBI : Aside0 (Bits (ev BW L) B) := ⟨by rw [hB]; exact bits_top hC⟩
  obtain ⟨Xe, hXe⟩ : ∃ Xe : Int, Xe = (b : Int) + x := ⟨_, rfl⟩
  rw [← hXe] at hsh HFA
  have hXe9 : -300 ≤ Xe ∧ Xe ≤ 500 := by omega
  have hB9 : 0 < B ∧ B ≤ 256 := by omega
  have hXw : IntKind.i64.wrap Xe = Xe := IntWalk.i64_in _ (by omega)
  have hshw : IntKind.i64.wrap (Xe - (B : Int)) = Xe - (B : Int) := IntWalk.i64_in _ (by omega)
  have HSH := Aside0.mk hsh
  have HSB : Aside0 (-3000 ≤ Xe - (B : Int) ∧ Xe - (B : Int) ≤ 1000) := ⟨by omega⟩
  obtain ⟨l1, hl1⟩ : ∃ l1, l1 = l ++ sgn1 neg := ⟨_, rfl⟩
  have HL1 := Aside0.mk hl1
  have HN1 : Aside0 (l1.length ≤ 900001) := ⟨by rw [hl1, List.length_append]; cases neg <;> simp [sgn1] <;> omega⟩
  obtain ⟨d0, hd0⟩ : ∃ d0, d0 = initD vN x := ⟨_, rfl⟩
  obtain ⟨ds, hds0⟩ : ∃ ds, ds = shortV vN b p x := ⟨_, rfl⟩
  have HBD0 : Aside0 (DBd d0 ∧ d0.2 ≤ 1000 ∧ -1100000 ≤ d0.2) := ⟨by rw [hd0]; exact hP.bd⟩
  have HBDS : Aside0 (k < 0 → DBd ds) := ⟨by rw [hds0]; exact hds⟩
  rw [← hd0, ← hds0] at HRS
  have HRS0 := Aside0.mk HRS
  have HD0 : Aside0 (initD N0 (Xe - (B : Int)) = d0) := ⟨by rw [hd0, ← hsh]; exact hP.eq⟩
  have HFT : Aside0 (Fit (initM N0 (Xe - (B : Int))).1) := ⟨by rw [← hsh]; exact hP.fit⟩
  obtain ⟨TX, hTX⟩ : ∃ TX, TX = l1 ++ finT vN b p x ch k := ⟨_, rfl⟩
  rw [← hl1, ← hTX]
  have HTX : Aside0 (TX = l1 ++ st3 (st2 d0 ds ch k) ch) := ⟨by rw [hTX]; unfold finT; rw [decT_st, ← hd0, ← hds0]⟩
  have hFw := HFA.out w hb.bel
  obtain ⟨c0, c1, c2, c3, c4, c5, c6, f0, f1, f2, f3, f4, f5, f6⟩ := blk7 hFw.flt
  have lg := hp_lt hFw.flt
  have hc98 : (ch == 98) = false := by rw [beq_eq_false_iff_ne]; omega
  have hc112 : (ch == 112) = false := by rw [beq_eq_false_iff_ne]; omega
  have hc120 : (ch == 120) = false := by rw [beq_eq_false_iff_ne]; omega
  have hu := Tryz.underlying87
  clear h hF hC hev h64 hb64 hFw hb hl hv0 hbits hbp hp hx hT hL hTb hP hsh hXe hB hd0 hds0 hTX hl1 HRS hds
  go_enter Tryz.func38, Tryz.ntmps38
  go_upto_if 16 with (fail)
  go_cut [1] (fun v1 wx => Aside0 (Bu W0 wx v1 l1))
  case first => as_aux_lemma =>
    cases neg with
    | true =>
      go_wp2_with (with_reducible refine bu_byte rfl _ _ rfl W0 v l 45 rfl ?h1 rfl ?h2 ?h3)
      case h1 => exact HB.out
      case h2 => exact Nat.le_trans HN.out (by decide)
      case h3 =>
        intro v1 w1 hb1
        have HB1 : Aside0 (Bu W0 w1 v1 l1) := ⟨by rw [HL1.out]; exact hb1⟩
        clear hb1
        go_wp2_with (fail)
        go_meet
        case rel => exact HB1
    | false =>
      have HB1 : Aside0 (Bu W0 w v l1) := ⟨by rw [HL1.out, show l ++ sgn1 false = l from List.append_nil _]; exact HB.out⟩
      go_wp2_with (fail)
      go_meet
      case rel => exact HB1
  case rest =>
    have HB1 := hcut
    clear hcut c0 c1 c2 c3 c4 c5 c6 f0 f1 f2 f3 f4 f5 f6 lg HB
    obtain ⟨v1, hv1⟩ : ∃ v1, v1 = u1 := ⟨_, rfl⟩
    obtain ⟨w1, hw1⟩ : ∃ w1, w1 = wc := ⟨_, rfl⟩
    rw [← hv1, ← hw1] at HB1
    rw [← hv1, ← hw1]
    clear hv1 hw1
    obtain ⟨c0, c1, c2, c3, c4, c5, c6, f0, f1, f2, f3, f4, f5, f6⟩ := blk7 (HFA.out w1 HB1.out.bel).flt
    have lg := hp_lt (HFA.out w1 HB1.out.bel).flt
    go_upto_region 16 with (fail)
    have HB2 : Aside0 (Bu W0 (w1.alloc (.cells #[.slice none 0 0, .int .i64 0] 87)) v1 l1) := ⟨HB1.out.alloc _⟩
    have HDN : Aside0 (DNil (w1.alloc (.cells #[.slice none 0 0, .int .i64 0] 87)) w1.heap.size) := ⟨hp_new _ _ _ rfl⟩
    have HOWN : Aside0 (∀ i, v1.ownBlock = some i → i < w1.heap.size) := ⟨fun i hi => (HB1.out.own_lt hi).1⟩
    have HBG : Aside0 (W0.heap.size ≤ w1.heap.size) := ⟨HB1.out.bel.size⟩
    have HSZ : Aside0 ((w1.alloc (.cells #[.slice none 0 0, .int .i64 0] 87)).heap.size = w1.heap.size + 1) := ⟨by simp⟩
    obtain ⟨b0, hb0⟩ : ∃ b0, b0 = w1.heap.size := ⟨_, rfl⟩
    rw [← hb0] at HDN HOWN HBG HSZ ⊢
    obtain ⟨w2, hw2⟩ : ∃ w2, w2 = w1.alloc (.cells #[.slice none 0 0, .int .i64 0] 87) := ⟨_, rfl⟩
    rw [← hw2] at HB2 HDN HSZ ⊢
    clear hw2 hb0 c0 c1 c2 c3 c4 c5 c6 f0 f1 f2 f3 f4 f5 f6 lg HB1
    have HF2 := Aside0.mk (HFA.out w2 HB2.out.bel)
    obtain ⟨c0, c1, c2, c3, c4, c5, c6, f0, f1, f2, f3, f4, f5, f6⟩ := blk7 HF2.out.flt
    have lg := hp_lt HF2.out.flt
    have hrow : Kd.C (Kd.int .u64) w2.drew (some ⟨mb, 0, none⟩) L.length L := by
      have := HF2.out.C
      rw [List.take_left' rfl] at this
      exact ⟨this.1, this.2.1, this.2.2⟩
    have HBL := Aside0.mk (bitLen_c (some ⟨mb, 0, none⟩) c L B w2.drew hrow hlc (by omega) HTOP.out.cn HBI.out)
    have HIN := Aside0.mk (init_c b0 N0 (Xe - (B : Int)) mb c L w2.drew HDN.out hrow hlc HTOP.out.cn HP.out.nv HP.out.pos (by omega) (hp_lt HF2.out.mant) HFT.out ((HTA.out w2 HB2.out.bel).kept ((Kept.refl (fun _ => False) w2).drew) (fun h => h)) ((HLA.out w2 HB2.out.bel).below (below_drew (Below.refl _ _))) HSB.out)
    rw [HD0.out] at HIN
    have hgb0 : g ≠ b0 := by
      have h1 := HDN.out; have h2 := HF2.out.flt
      rintro rfl
      have h3 := h1.symm.trans h2
      injection h3 with h3
      injection h3 with _ h4
      exact absurd h4 (by decide)
    have HGB := Aside0.mk hgb0
    clear hrow hgb0
    refine start_ (n := 16) (S := fun w' => w'.cell? ⟨g, 5, none⟩ = some (.slice (some ⟨mb, 0, none⟩) L.length c) ∧ w'.cell? ⟨g, 6, none⟩ = some (.int .i32 Xe)) (ds := []) #[false, false, false, false, false, false, false, false, false, false, false, false, false, false, false, false] (by kernel_rfl) rfl rfl ⟨(by go_simp), (by go_simp)⟩ (fun hHeld => ?_)
    refine pure_ (i := 0) (N := some 57) (v := ?_) (a' := ?_) #[true, false, false, false, false, false, false, false, false, false, false, false, false, false, false, false] rfl rfl (by kernel_rfl) (fun _ _ _ h => h) (Or.inl ⟨by rfl, ?_⟩) ?_ ?_
    rotate_left
    · intro w'
      go_simp
      with_reducible rfl
    rotate_left
    · simp only [Act.put, List.setIfInBounds_toArray, List.set_cons_zero, List.set_cons_succ, i64_w, i32_w]
      rfl
    refine pure_ (i := 1) (N := some 58) (v := ?_) (a' := ?_) #[true, true, false, false, false, false, false, false, false, false, false, false, false, false, false, false] rfl rfl (by kernel_rfl) (fun _ _ _ h => h) (Or.inl ⟨by rfl, ?_⟩) ?_ ?_
    rotate_left
    · intro w'
      go_simp
      with_reducible rfl
    rotate_left
    · simp only [Act.put, List.setIfInBounds_toArray, List.set_cons_zero, List.set_cons_succ, i64_w, i32_w]
      rfl
    refine pure_ (i := 2) (N := some 59) (v := ?_) (a' := ?_) #[true, true, true, false, false, false, false, false, false, false, false, false, false, false, false, false] rfl rfl (by kernel_rfl) (fun _ _ _ h => h) (Or.inl ⟨by rfl, ?_⟩) ?_ ?_
    rotate_left
    · intro w'
      go_simp
      with_reducible rfl
    rotate_left
    · simp only [Act.put, List.setIfInBounds_toArray, List.set_cons_zero, List.set_cons_succ, i64_w, i32_w]
      rfl
    refine pure_ (i := 4) (N := some 61) (v := ?_) (a' := ?_) #[true, true, true, false, true, false, false, false, false, false, false, false, false, false, false, false] rfl rfl (by kernel_rfl) (fun _ _ _ h => h) (Or.inl ⟨by rfl, ?_⟩) ?_ ?_
    rotate_left
    · intro w'
      go_simp
      with_reducible rfl
    rotate_left
    · simp only [Act.put, List.setIfInBounds_toArray, List.set_cons_zero, List.set_cons_succ, i64_w, i32_w]
      rfl
    refine pure_ (i := 5) (N := some 62) (v := ?_) (a' := ?_) #[true, true, true, false, true, true, false, false, false, false, false, false, false, false, false, false] rfl rfl (by kernel_rfl) (fun _ _ _ h => h) (Or.inl ⟨by rfl, ?_⟩) ?_ ?_
    rotate_left
    · intro w'
      go_simp
      with_reducible rfl
    rotate_left
    · simp only [Act.put, List.setIfInBounds_toArray, List.set_cons_zero, List.set_cons_succ, i64_w, i32_w]
      rfl
    refine pure_ (i := 6) (N := some 63) (v := ?_) (a' := ?_) #[true, true, true, false, true, true, true, false, false, false, false, false, false, false, false, false] rfl rfl (by kernel_rfl) (fun _ _ _ h => h) (Or.inl ⟨by rfl, ?_⟩) ?_ ?_
    rotate_left
    · intro w'
      go_simp
      with_reducible rfl
    rotate_left
    · simp only [Act.put, List.setIfInBounds_toArray, List.set_cons_zero, List.set_cons_succ, i64_w, i32_w]
      rfl
    refine pure_ (i := 9) (N := some 66) (v := ?_) (a' := ?_) #[true, true, true, false, true, true, true, false, false, true, false, false, false, false, false, false] rfl rfl (by kernel_rfl) (fun _ _ _ h => h) (Or.inl ⟨by rfl, ?_⟩) ?_ ?_
    rotate_left
    · intro w'
      go_simp
      with_reducible rfl
    rotate_left
    · simp only [Act.put, List.setIfInBounds_toArray, List.set_cons_zero, List.set_cons_succ, i64_w, i32_w]
      rfl
    refine pure_ (i := 10) (N := some 67) (v := ?_) (a' := ?_) #[true, true, true, false, true, true, true, false, false, true, true, false, false, false, false, false] rfl rfl (by kernel_rfl) (fun _ _ _ h => h) (Or.inl ⟨by rfl, ?_⟩) ?_ ?_
    rotate_left
    · intro w'
      go_simp
      with_reducible rfl
    rotate_left
    · simp only [Act.put, List.setIfInBounds_toArray, List.set_cons_zero, List.set_cons_succ, i64_w, i32_w]
      rfl
    refine pure_ (i := 11) (N := some 68) (v := ?_) (a' := ?_) #[true, true, true, false, true, true, true, false, false, true, true, true, false, false, false, false] rfl rfl (by kernel_rfl) (fun _ _ _ h => h) (Or.inl ⟨by rfl, ?_⟩) ?_ ?_
    rotate_left
    · intro w'
      go_simp
      with_reducible rfl
    rotate_left
    · simp only [Act.put, List.setIfInBounds_toArray, List.set_cons_zero, List.set_cons_succ, i64_w, i32_w]
      rfl
    refine take_ (i := 3) (N := some 60) (v := ?_) (a' := ?_) #[true, true, true, true, true, true, true, false, false, true, true, true, false, false, false, false] rfl rfl (by kernel_rfl) (fun _ _ _ h => h) (Or.inl ⟨by rfl, ?_⟩) hHeld ?_ ?_
    rotate_left
    · rintro w' ⟨s0, s1⟩
      go_simp
      with_reducible rfl
    rotate_left
    · simp only [Act.put, List.setIfInBounds_toArray, List.set_cons_zero, List.set_cons_succ, i64_w, i32_w]
      rfl
    refine take_ (i := 7) (N := some 64) (v := ?_) (a' := ?_) #[true, true, true, true, true, true, true, true, false, true, true, true, false, false, false, false] rfl rfl (by kernel_rfl) (fun _ _ _ h => h) (Or.inl ⟨by rfl, ?_⟩) hHeld ?_ ?_
    rotate_left
    · rintro w' ⟨s0, s1⟩
      go_simp
      with_reducible rfl
    rotate_left
    · simp only [Act.put, List.setIfInBounds_toArray, List.set_cons_zero, List.set_cons_succ, i64_w, i32_w]
      rfl
    refine pure_ (i := 8) (N := some 65) (v := ?_) (a' := ?_) #[true, true, true, true, true, true, true, true, true, true, true, true, false, false, false, false] rfl rfl (by kernel_rfl) (fun _ _ _ h => h) (Or.inl ⟨by rfl, ?_⟩) ?_ ?_
    rotate_left
    · intro w'
      go_simp
      with_reducible rfl
    rotate_left
    · simp only [Act.put, List.setIfInBounds_toArray, List.set_cons_zero, List.set_cons_succ, i64_w, i32_w]
      rfl
    refine take_ (i := 12) (N := some 69) (v := ?_) (a' := ?_) #[true, true, true, true, true, true, true, true, true, true, true, true, true, false, false, false] rfl rfl (by kernel_rfl) (fun _ _ _ h => h) (Or.inl ⟨by rfl, ?_⟩) hHeld ?_ ?_
    rotate_left
    · rintro w' ⟨s0, s1⟩
      go_simp
      with_reducible rfl
    rotate_left
    · simp only [Act.put, List.setIfInBounds_toArray, List.set_cons_zero, List.set_cons_succ, i64_w, i32_w]
      rfl
    refine one_ (i := 13) (N := some 70) #[true, true, true, true, true, true, true, true, true, true, true, true, true, true, false, false] rfl rfl (by kernel_rfl) (by decide) (fun K hK => ?_)
    refine goes_ Tryz.func52 (by kernel_rfl) rfl #[.slice (some ⟨mb, 0, none⟩) L.length c] (by rfl) rfl rfl (by simp only [List.map_toArray, List.map_cons, List.map_nil]; rfl) ?_
    with_reducible refine (HBL.out).mono ?_
    rintro e w3 ⟨rfl, rfl⟩
    refine ⟨_, rfl, ?_⟩
    have q0 := hHeld.1
    have q1 := hHeld.2
    refine hK.out _ _ ⟨q0, q1⟩ (fun hHeld => ?_)
    clear hK K
    refine norm_ (a' := ?_) ?_ ?_
    rotate_left
    · show Act.put _ (some 70) _ = _
      simp only [Act.put, List.setIfInBounds_toArray, List.set_cons_zero, List.set_cons_succ, i64_w, i32_w]
      rfl
    refine pure_ (i := 14) (N := some 71) (v := ?_) (a' := ?_) #[true, true, true, true, true, true, true, true, true, true, true, true, true, true, true, false] rfl rfl (by kernel_rfl) (fun _ _ _ h => h) (Or.inl ⟨by rfl, ?_⟩) ?_ ?_
    rotate_left
    · intro w'
      go_simp
      with_reducible rfl
    rotate_left
    · simp only [Act.put, List.setIfInBounds_toArray, List.set_cons_zero, List.set_cons_succ, i64_w, i32_w]
      rfl
    refine one_ (i := 15) (N := some 72) #[true, true, true, true, true, true, true, true, true, true, true, true, true, true, true, true] rfl rfl (by kernel_rfl) (by decide) (fun K hK => ?_)
    refine goes_ Tryz.func51 (by kernel_rfl) rfl #[.pointer (some ⟨b0, 0, none⟩), .slice (some ⟨mb, 0, none⟩) L.length c, .int .i64 (Xe - (B : Int))] (by rfl) rfl rfl (by simp only [List.map_toArray, List.map_cons, List.map_nil]; rfl) ?_
    with_reducible refine (HIN.out).mono ?_
    rintro e w3 ⟨rfl, hk3, g1, R1, hg1, hdx⟩
    refine ⟨_, rfl, ?_⟩
    have HK3 := Aside0.mk hk3
    have HG1 := Aside0.mk hg1
    have HDX := Aside0.mk hdx
    have q0 := hk3.cell (p := ⟨g, 5, none⟩) hHeld.1 HGB.out
    have q1 := hk3.cell (p := ⟨g, 6, none⟩) hHeld.2 HGB.out
    clear hk3 hg1 hdx
    refine hK.out _ _ ⟨q0, q1⟩ (fun hHeld => ?_)
    clear hK K
    refine norm_ (a' := ?_) ?_ ?_
    rotate_left
    · show Act.put _ (some 72) _ = _
      simp only [Act.put, List.setIfInBounds_toArray, List.set_cons_zero, List.set_cons_succ, i64_w, i32_w]
      rfl
    refine done_ (by kernel_rfl) ?_
    clear q0 q1 hHeld c0 c1 c2 c3 c4 c5 c6 f0 f1 f2 f3 f4 f5 f6 lg HBL HIN
    have HB3 : Aside0 (Bu W0 w3 v1 l1) := ⟨(HB2.out.below (below_drew (Below.refl _ _))).keptS HK3.out (fun i hi => by have h : i = b0 := hi; have := HBG.out; omega) (fun i hi h => by have h : i = b0 := h; have := HOWN.out i hi; omega)⟩
    have HG2 : Aside0 (b0 < g1) := ⟨by have := HG1.out; have h : w2.heap.size ≤ g1 := this; have := HSZ.out; omega⟩
    obtain ⟨D, K, Sh, hst⟩ : ∃ D K Sh, st2 d0 ds ch k = (D, K, Sh) := ⟨_, _, _, rfl⟩
    rw [hst] at HTX
    have HST := Aside0.mk hst
    have hd0l : d0.1.length ≤ 8000 := HBD0.out.1.len
    have hd02 : -1200000 ≤ d0.2 ∧ d0.2 ≤ 1000 := ⟨HBD0.out.1.lo, HBD0.out.2.1⟩
    clear hst HD0 HFT HP HBI HSB
    go_upto_if 74 with (fail)
    go_cut [3, 10] (fun v3 v10 wx => v3 = .int .i64 K ∧ v10 = .bool Sh ∧ ∃ R2, Aside0 (DX wx b0 g1 D.1 R2 D.2) ∧ Aside0 (Kept (On2 b0 g1) w3 wx))
    case first =>
      by_cases hk0 : k < 0
      · have HBS := Aside0.mk (HBDS.out hk0)
        have hdsl : ds.1.length ≤ 8000 := HBS.out.len
        have hds2 : -1200000 ≤ ds.2 ∧ ds.2 ≤ 1001 := ⟨HBS.out.lo, HBS.out.hi⟩
        have HRC := Aside0.mk (HRS0.out hk0 w3 b0 g1 R1 HB3.out.bel HBG.out HDX.out)
        rcases hch with rfl | rfl | rfl | rfl | rfl
        · as_aux_lemma =>
          have hs := HST.out
          unfold st2 at hs
          simp [hk0] at hs
          obtain ⟨rfl, hK, rfl⟩ := hs
          have HKK : Aside0 (K = (ds.1.length : Int) - 1) := ⟨by rw [← hK]⟩
          clear hK
          go_wp2_with (go_at_call 53; refine HRC.out.mono ?_; rintro e w4 ⟨rfl, hk4, R4, h4⟩; have HK4 := Aside0.mk hk4; have H4 := Aside0.mk h4; obtain ⟨d0', d1', g0', g1'⟩ := blk2 h4.str; have lb4 := hp_lt h4.str; clear hk4 h4)
          go_meet
          case rel => exact ⟨by rw [HKK.out], rfl, R4, H4, HK4⟩
        · as_aux_lemma =>
          have hs := HST.out
          unfold st2 at hs
          simp [hk0] at hs
          obtain ⟨rfl, hK, rfl⟩ := hs
          have HKK : Aside0 (K = (ds.1.length : Int) - 1) := ⟨by rw [← hK]⟩
          clear hK
          go_wp2_with (go_at_call 53; refine HRC.out.mono ?_; rintro e w4 ⟨rfl, hk4, R4, h4⟩; have HK4 := Aside0.mk hk4; have H4 := Aside0.mk h4; obtain ⟨d0', d1', g0', g1'⟩ := blk2 h4.str; have lb4 := hp_lt h4.str; clear hk4 h4)
          go_meet
          case rel => exact ⟨by rw [HKK.out], rfl, R4, H4, HK4⟩
        · as_aux_lemma =>
          have hs := HST.out
          unfold st2 at hs
          simp [hk0] at hs
          obtain ⟨rfl, hK, rfl⟩ := hs
          have HKK : Aside0 (K = max ((ds.1.length : Int) - ds.2) 0) := ⟨by rw [← hK]⟩
          clear hK
          go_wp2_with (go_at_call 53; refine HRC.out.mono ?_; rintro e w4 ⟨rfl, hk4, R4, h4⟩; have HK4 := Aside0.mk hk4; have H4 := Aside0.mk h4; obtain ⟨d0', d1', g0', g1'⟩ := blk2 h4.str; have lb4 := hp_lt h4.str; clear hk4 h4)
          go_meet
          case rel => exact ⟨by rw [HKK.out], rfl, R4, H4, HK4⟩
        · as_aux_lemma =>
          have hs := HST.out
          unfold st2 at hs
          simp [hk0] at hs
          obtain ⟨rfl, hK, rfl⟩ := hs
          have HKK : Aside0 (K = (ds.1.length : Int)) := ⟨by rw [← hK]⟩
          clear hK
          go_wp2_with (go_at_call 53; refine HRC.out.mono ?_; rintro e w4 ⟨rfl, hk4, R4, h4⟩; have HK4 := Aside0.mk hk4; have H4 := Aside0.mk h4; obtain ⟨d0', d1', g0', g1'⟩ := blk2 h4.str; have lb4 := hp_lt h4.str; clear hk4 h4)
          go_meet
          case rel => exact ⟨by rw [HKK.out], rfl, R4, H4, HK4⟩
        · as_aux_lemma =>
          have hs := HST.out
          unfold st2 at hs
          simp [hk0] at hs
          obtain ⟨rfl, hK, rfl⟩ := hs
          have HKK : Aside0 (K = (ds.1.length : Int)) := ⟨by rw [← hK]⟩
          clear hK
          go_wp2_with (go_at_call 53; refine HRC.out.mono ?_; rintro e w4 ⟨rfl, hk4, R4, h4⟩; have HK4 := Aside0.mk hk4; have H4 := Aside0.mk h4; obtain ⟨d0', d1', g0', g1'⟩ := blk2 h4.str; have lb4 := hp_lt h4.str; clear hk4 h4)
          go_meet
          case rel => exact ⟨by rw [HKK.out], rfl, R4, H4, HK4⟩
      · rcases hch with rfl | rfl | rfl | rfl | rfl
        · as_aux_lemma =>
          have hs := HST.out
          unfold st2 at hs
          simp [hk0] at hs
          obtain ⟨rfl, rfl, rfl⟩ := hs
          have hnw : IntKind.i64.wrap (1 + k) = 1 + k := IntWalk.i64_in _ (by omega)
          have HRD := Aside0.mk (round_d b0 g1 (1 + k) d0.1 R1 d0.2 w3 HDX.out (by omega) HBD0.out.1.digs)
          obtain ⟨d0', d1', g0', g1'⟩ := blk2 HDX.out.str
          have lb3 := hp_lt HDX.out.str
          go_wp2_with (go_at_call 54; refine HRD.out.mono ?_; rintro e w4 ⟨rfl, hk4, R4, h4⟩; have HK4 := Aside0.mk hk4; have H4 := Aside0.mk h4; clear hk4 h4)
          go_meet
          case rel => exact ⟨rfl, rfl, R4, H4, HK4⟩
        · as_aux_lemma =>
          have hs := HST.out
          unfold st2 at hs
          simp [hk0] at hs
          obtain ⟨rfl, rfl, rfl⟩ := hs
          have hnw : IntKind.i64.wrap (1 + k) = 1 + k := IntWalk.i64_in _ (by omega)
          have HRD := Aside0.mk (round_d b0 g1 (1 + k) d0.1 R1 d0.2 w3 HDX.out (by omega) HBD0.out.1.digs)
          obtain ⟨d0', d1', g0', g1'⟩ := blk2 HDX.out.str
          have lb3 := hp_lt HDX.out.str
          go_wp2_with (go_at_call 54; refine HRD.out.mono ?_; rintro e w4 ⟨rfl, hk4, R4, h4⟩; have HK4 := Aside0.mk hk4; have H4 := Aside0.mk h4; clear hk4 h4)
          go_meet
          case rel => exact ⟨rfl, rfl, R4, H4, HK4⟩
        · as_aux_lemma =>
          have hs := HST.out
          unfold st2 at hs
          simp [hk0] at hs
          obtain ⟨rfl, rfl, rfl⟩ := hs
          have hnw : IntKind.i64.wrap (d0.2 + k) = d0.2 + k := IntWalk.i64_in _ (by omega)
          have HRD := Aside0.mk (round_d b0 g1 (d0.2 + k) d0.1 R1 d0.2 w3 HDX.out (by omega) HBD0.out.1.digs)
          obtain ⟨d0', d1', g0', g1'⟩ := blk2 HDX.out.str
          have lb3 := hp_lt HDX.out.str
          go_wp2_with (go_at_call 54; refine HRD.out.mono ?_; rintro e w4 ⟨rfl, hk4, R4, h4⟩; have HK4 := Aside0.mk hk4; have H4 := Aside0.mk h4; clear hk4 h4)
          go_meet
          case rel => exact ⟨rfl, rfl, R4, H4, HK4⟩
        · as_aux_lemma =>
          have hs := HST.out
          unfold st2 at hs
          simp [hk0] at hs
          obtain ⟨hD, hK, rfl⟩ := hs
          have HDD : Aside0 (D = roundD d0 K) := ⟨by rw [← hD, ← hK]⟩
          have HRD := Aside0.mk (round_d b0 g1 K d0.1 R1 d0.2 w3 HDX.out (by omega) HBD0.out.1.digs)
          rw [← HDD.out] at HRD
          clear hD
          by_cases hkz : k = 0
          · subst hkz
            have hK1 : K = 1 := by rw [← hK]; rfl
            subst hK1
            clear hK
            go_wp2_with (go_at_call 54; refine HRD.out.mono ?_; rintro e w4 ⟨rfl, hk4, R4, h4⟩; have HK4 := Aside0.mk hk4; have H4 := Aside0.mk h4; clear hk4 h4)
            go_meet
            case rel => exact ⟨rfl, rfl, R4, H4, HK4⟩
          · have hK1 : K = k := by rw [← hK, if_neg hkz]
            subst hK1
            have hkb : (K == 0) = false := by rw [beq_eq_false_iff_ne]; exact hkz
            clear hK
            go_wp2_with (go_at_call 54; refine HRD.out.mono ?_; rintro e w4 ⟨rfl, hk4, R4, h4⟩; have HK4 := Aside0.mk hk4; have H4 := Aside0.mk h4; clear hk4 h4)
            go_meet
            case rel => exact ⟨rfl, rfl, R4, H4, HK4⟩
        · as_aux_lemma =>
          have hs := HST.out
          unfold st2 at hs
          simp [hk0] at hs
          obtain ⟨hD, hK, rfl⟩ := hs
          have HDD : Aside0 (D = roundD d0 K) := ⟨by rw [← hD, ← hK]⟩
          have HRD := Aside0.mk (round_d b0 g1 K d0.1 R1 d0.2 w3 HDX.out (by omega) HBD0.out.1.digs)
          rw [← HDD.out] at HRD
          clear hD
          by_cases hkz : k = 0
          · subst hkz
            have hK1 : K = 1 := by rw [← hK]; rfl
            subst hK1
            clear hK
            go_wp2_with (go_at_call 54; refine HRD.out.mono ?_; rintro e w4 ⟨rfl, hk4, R4, h4⟩; have HK4 := Aside0.mk hk4; have H4 := Aside0.mk h4; clear hk4 h4)
            go_meet
            case rel => exact ⟨rfl, rfl, R4, H4, HK4⟩
          · have hK1 : K = k := by rw [← hK, if_neg hkz]
            subst hK1
            have hkb : (K == 0) = false := by rw [beq_eq_false_iff_ne]; exact hkz
            clear hK
            go_wp2_with (go_at_call 54; refine HRD.out.mono ?_; rintro e w4 ⟨rfl, hk4, R4, h4⟩; have HK4 := Aside0.mk hk4; have H4 := Aside0.mk h4; clear hk4 h4)
            go_meet
            case rel => exact ⟨rfl, rfl, R4, H4, HK4⟩
    case rest =>
      obtain ⟨rfl, rfl, R2, HDX2, HK2⟩ := hcut
      have HB4 : Aside0 (Bu W0 wc v1 l1) := ⟨HB3.out.keptS HK2.out (fun i hi => by
        rcases hi with h | h
        · have := HBG.out; omega
        · have := HBG.out; have := HG2.out; omega) (fun i hi h => by
        have h2 := HOWN.out i hi
        rcases h with h | h
        · omega
        · have := HG2.out; omega)⟩
      obtain ⟨w4, hw4⟩ : ∃ w4, w4 = wc := ⟨_, rfl⟩
      rw [← hw4] at HDX2 HB4 ⊢
      clear hw4 HB3 HB2 HK2 HDX HK3 HRS0 HFA HTA HLA HF2
      obtain ⟨Dl, De⟩ := D
      have HSB2 := Aside0.mk (st2_bd d0 ds ch k HBD0.out.1 HBD0.out.2.1 HBDS.out hk)
      rw [HST.out] at HSB2
      have hDl : Dl.length ≤ 8000 := HSB2.out.len
      have hDe : -1200000 ≤ De ∧ De ≤ 1001 := ⟨HSB2.out.lo, HSB2.out.hi⟩
      have hK9 : -1 ≤ K ∧ K ≤ 1300000 := ⟨HSB2.out.klo, HSB2.out.khi⟩
      have HBS : Aside0 (Bs [(g1, Obj.cells (nums .u8 Dl ++ R2).toArray 5 (0, 0))] W0 w4 v1 l1) := ⟨⟨HB4.out, fun q hq => by
        obtain rfl : q = (g1, Obj.cells (nums .u8 Dl ++ R2).toArray 5 (0, 0)) := by simpa using hq
        exact ⟨HDX2.out.row, fun hi => by have := HOWN.out _ hi; have := HG2.out; simp at *; omega⟩⟩⟩
      obtain ⟨d0', d1', g0', g1'⟩ := blk2 HDX2.out.str
      have lb4 := hp_lt HDX2.out.str
      have HFE : Aside0 (ch ≠ 102 → ∀ c2 P2, -10 ≤ P2 ∧ P2 ≤ 10000 → Calls Tryz.prog 55 #[v1, .int .u8 c2, .int .i64 P2, .agg #[.slice (some ⟨g1, 0, none⟩) Dl.length (Dl.length + R2.length), .int .i64 De]] w4 (BuPost W0 (l1 ++ fmtET (Dl, De) c2 P2))) := ⟨fun hne c2 P2 hP2 => fmtE_c _ W0 w4 v1 l1 c2 P2 g1 Dl R2 De HBS.out (by simp) (by omega) (HSB2.out.ne hne).1 (Nat.le_trans HN1.out (by decide)) hP2 (by omega) HPW.out⟩
      have HFF : Aside0 (∀ P2, -10 ≤ P2 ∧ P2 ≤ 2000000 → Calls Tryz.prog 56 #[v1, .int .i64 P2, .agg #[.slice (some ⟨g1, 0, none⟩) Dl.length (Dl.length + R2.length), .int .i64 De]] w4 (BuPost W0 (l1 ++ fmtFT (Dl, De) P2))) := ⟨fun P2 hP2 => fmtF_c _ W0 w4 v1 l1 P2 g1 Dl R2 De HBS.out (by simp) (by omega) HDX2.out.len.2 (Nat.le_trans HN1.out (by decide)) hP2 (by omega)⟩
      clear HBDS HBD0 hd0l hd02 HN HL1
      rcases hch with rfl | rfl | rfl | rfl | rfl
      · as_aux_lemma =>
        have HTX2 : Aside0 (TX = l1 ++ fmtET (Dl, De) 101 K) := ⟨by rw [HTX.out]; rfl⟩
        have HC := Aside0.mk (HFE.out (by decide) 101 K ⟨by omega, by have h : K ≤ 8000 := (HSB2.out.ne (by decide)).2.1; omega⟩)
        go_wp2_with (go_at_call 55; refine HC.out.mono ?_; rintro e w5 ⟨v5, rfl, hb5⟩; have HB5 := Aside0.mk hb5; clear hb5)
        go_ret
        exact ⟨_, rfl, by rw [HTX2.out]; exact HB5.out⟩
      · as_aux_lemma =>
        have HTX2 : Aside0 (TX = l1 ++ fmtET (Dl, De) 69 K) := ⟨by rw [HTX.out]; rfl⟩
        have HC := Aside0.mk (HFE.out (by decide) 69 K ⟨by omega, by have h : K ≤ 8000 := (HSB2.out.ne (by decide)).2.1; omega⟩)
        go_wp2_with (go_at_call 55; refine HC.out.mono ?_; rintro e w5 ⟨v5, rfl, hb5⟩; have HB5 := Aside0.mk hb5; clear hb5)
        go_ret
        exact ⟨_, rfl, by rw [HTX2.out]; exact HB5.out⟩
      · as_aux_lemma =>
        have HTX2 : Aside0 (TX = l1 ++ fmtFT (Dl, De) K) := ⟨by rw [HTX.out]; rfl⟩
        have HC := Aside0.mk (HFF.out K ⟨by omega, by omega⟩)
        go_wp2_with (go_at_call 56; refine HC.out.mono ?_; rintro e w5 ⟨v5, rfl, hb5⟩; have HB5 := Aside0.mk hb5; clear hb5)
        go_ret
        exact ⟨_, rfl, by rw [HTX2.out]; exact HB5.out⟩
      · have hK8 : K ≤ 8000 := (HSB2.out.ne (by decide)).2.1
        obtain ⟨ep0, hep0⟩ : ∃ ep0 : Int, ep0 = if (Dl.length : Int) < K ∧ De ≤ (Dl.length : Int) then (Dl.length : Int) else K := ⟨_, rfl⟩
        obtain ⟨ep, hep⟩ : ∃ ep : Int, ep = if Sh then 6 else ep0 := ⟨_, rfl⟩
        obtain ⟨Ee, hEe⟩ : ∃ Ee : Int, Ee = De - 1 := ⟨_, rfl⟩
        have hEw : IntKind.i64.wrap (De - 1) = Ee := by rw [IntWalk.i64_in _ (by omega), hEe]
        have hep9 : -1 ≤ ep ∧ ep ≤ 8000 := by
          have : -1 ≤ ep0 ∧ ep0 ≤ 8000 := by split at hep0 <;> omega
          split at hep <;> omega
        have HTX2 : Aside0 (TX = l1 ++ (if Ee < -4 ∨ ep ≤ Ee then fmtET (Dl, De) 101 ((if (Dl.length : Int) < K then (Dl.length : Int) else K) - 1) else fmtFT (Dl, De) (max ((if De < K then (Dl.length : Int) else K) - De) 0))) := ⟨by rw [HTX.out, hep, hep0, hEe]; rfl⟩
        have HEP := Aside0.mk hep
        have HEP0 := Aside0.mk hep0
        clear hEe hep hep0
        obtain ⟨C, hC⟩ : ∃ C : Bool, C = decide ((Dl.length : Int) < K ∧ De ≤ (Dl.length : Int)) := ⟨_, rfl⟩
        have HCC := Aside0.mk hC
        clear hC
        go_upto_region 50 with (fail)
        go_cut [152] (fun v152 wx => v152 = .bool C ∧ w4 = wx)
        case first => as_aux_lemma =>
          by_cases h1 : (Dl.length : Int) < K
          · by_cases h2 : De ≤ (Dl.length : Int)
            · have HE : Aside0 (C = true) := ⟨by rw [HCC.out]; exact decide_eq_true ⟨h1, h2⟩⟩
              go_wp2_with (fail)
              go_meet
              case rel => exact ⟨by rw [HE.out], rfl⟩
            · have HE : Aside0 (C = false) := ⟨by rw [HCC.out]; exact decide_eq_false (fun h => h2 h.2)⟩
              go_wp2_with (fail)
              go_meet
              case rel => exact ⟨by rw [HE.out], rfl⟩
          · have HE : Aside0 (C = false) := ⟨by rw [HCC.out]; exact decide_eq_false (fun h => h1 h.1)⟩
            go_wp2_with (fail)
            go_meet
            case rel => exact ⟨by rw [HE.out], rfl⟩
        case rest =>
          obtain ⟨rfl, rfl⟩ := hcut
          have HEC : Aside0 (ep0 = if C = true then (Dl.length : Int) else K) := ⟨by rw [HEP0.out, HCC.out]; simp only [decide_eq_true_eq]⟩
          go_upto_if 152 with (fail)
          go_cut [11] (fun v11 wx => v11 = .int .i64 ep0 ∧ w4 = wx)
          case first => as_aux_lemma =>
            cases C with
            | true =>
              have HE : Aside0 (ep0 = (Dl.length : Int)) := ⟨by rw [HEC.out]; rfl⟩
              go_wp2_with (fail)
              go_meet
              case rel => exact ⟨by rw [HE.out], rfl⟩
            | false =>
              have HE : Aside0 (ep0 = K) := ⟨by rw [HEC.out]; rfl⟩
              go_wp2_with (fail)
              go_meet
              case rel => exact ⟨by rw [HE.out], rfl⟩
          case rest =>
          obtain ⟨rfl, rfl⟩ := hcut
          clear HEC HCC
          go_upto_if 156 with (fail)
          go_cut [11] (fun v11 wx => v11 = .int .i64 ep ∧ w4 = wx)
          case first => as_aux_lemma =>
            cases Sh with
            | true =>
              have HE : Aside0 (ep = 6) := ⟨by rw [HEP.out]; rfl⟩
              go_wp2_with (fail)
              go_meet
              case rel => exact ⟨by rw [HE.out], rfl⟩
            | false =>
              have HE : Aside0 (ep = ep0) := ⟨by rw [HEP.out]; rfl⟩
              go_wp2_with (fail)
              go_meet
              case rel => exact ⟨by rw [HE.out], rfl⟩
          case rest =>
            obtain ⟨rfl, rfl⟩ := hcut
            clear HEP HEP0
            by_cases hE4 : Ee < -4
            · as_aux_lemma =>
              obtain ⟨K2, hK2⟩ : ∃ K2 : Int, K2 = if (Dl.length : Int) < K then (Dl.length : Int) else K := ⟨_, rfl⟩
              have hK29 : -1 ≤ K2 ∧ K2 ≤ 8000 := by split at hK2 <;> omega
              have hK2w : IntKind.i64.wrap (K2 - 1) = K2 - 1 := IntWalk.i64_in _ (by omega)
              have HC := Aside0.mk (HFE.out (by decide) 101 (K2 - 1) ⟨by omega, by omega⟩)
              have HTX3 : Aside0 (TX = l1 ++ fmtET (Dl, De) 101 (K2 - 1)) := ⟨by rw [HTX2.out, if_pos (by omega), hK2]⟩
              go_upto_if 171 with (fail)
              go_cut [3] (fun v3 wx => v3 = .int .i64 K2 ∧ w4 = wx)
              case first =>
                by_cases h1 : (Dl.length : Int) < K
                · have h2 : K2 = (Dl.length : Int) := by rw [hK2, if_pos h1]
                  have H2 := Aside0.mk h2
                  clear hK2 h2
                  go_wp2_with (fail)
                  go_meet
                  case rel => exact ⟨by rw [H2.out], rfl⟩
                · have h2 : K2 = K := by rw [hK2, if_neg h1]
                  have H2 := Aside0.mk h2
                  clear hK2 h2
                  go_wp2_with (fail)
                  go_meet
                  case rel => exact ⟨by rw [H2.out], rfl⟩
              case rest =>
                obtain ⟨rfl, rfl⟩ := hcut
                clear hK2
                go_wp2_with (go_at_call 55; refine HC.out.mono ?_; rintro e w5 ⟨v5, rfl, hb5⟩; have HB5 := Aside0.mk hb5; clear hb5)
                go_ret
                exact ⟨_, rfl, by rw [HTX3.out]; exact HB5.out⟩
            · by_cases hEp : ep ≤ Ee
              · as_aux_lemma =>
                obtain ⟨K2, hK2⟩ : ∃ K2 : Int, K2 = if (Dl.length : Int) < K then (Dl.length : Int) else K := ⟨_, rfl⟩
                have hK29 : -1 ≤ K2 ∧ K2 ≤ 8000 := by split at hK2 <;> omega
                have hK2w : IntKind.i64.wrap (K2 - 1) = K2 - 1 := IntWalk.i64_in _ (by omega)
                have HC := Aside0.mk (HFE.out (by decide) 101 (K2 - 1) ⟨by omega, by omega⟩)
                have HTX3 : Aside0 (TX = l1 ++ fmtET (Dl, De) 101 (K2 - 1)) := ⟨by rw [HTX2.out, if_pos (by omega), hK2]⟩
                go_upto_if 171 with (fail)
                go_cut [3] (fun v3 wx => v3 = .int .i64 K2 ∧ w4 = wx)
                case first =>
                  by_cases h1 : (Dl.length : Int) < K
                  · have h2 : K2 = (Dl.length : Int) := by rw [hK2, if_pos h1]
                    have H2 := Aside0.mk h2
                    clear hK2 h2
                    go_wp2_with (fail)
                    go_meet
                    case rel => exact ⟨by rw [H2.out], rfl⟩
                  · have h2 : K2 = K := by rw [hK2, if_neg h1]
                    have H2 := Aside0.mk h2
                    clear hK2 h2
                    go_wp2_with (fail)
                    go_meet
                    case rel => exact ⟨by rw [H2.out], rfl⟩
                case rest =>
                  obtain ⟨rfl, rfl⟩ := hcut
                  clear hK2
                  go_wp2_with (go_at_call 55; refine HC.out.mono ?_; rintro e w5 ⟨v5, rfl, hb5⟩; have HB5 := Aside0.mk hb5; clear hb5)
                  go_ret
                  exact ⟨_, rfl, by rw [HTX3.out]; exact HB5.out⟩
              · as_aux_lemma =>
                obtain ⟨K3, hK3⟩ : ∃ K3 : Int, K3 = if De < K then (Dl.length : Int) else K := ⟨_, rfl⟩
                have hK39 : -1 ≤ K3 ∧ K3 ≤ 8000 := by split at hK3 <;> omega
                have hK3w : IntKind.i64.wrap (K3 - De) = K3 - De := IntWalk.i64_in _ (by omega)
                have HC := Aside0.mk (HFF.out (max (K3 - De) 0) ⟨by omega, by omega⟩)
                have HTX3 : Aside0 (TX = l1 ++ fmtFT (Dl, De) (max (K3 - De) 0)) := ⟨by rw [HTX2.out, if_neg (by omega), hK3]⟩
                go_upto_if 186 with (fail)
                go_cut [3] (fun v3 wx => v3 = .int .i64 K3 ∧ w4 = wx)
                case first =>
                  by_cases h1 : De < K
                  · have h2 : K3 = (Dl.length : Int) := by rw [hK3, if_pos h1]
                    have H2 := Aside0.mk h2
                    clear hK3 h2
                    go_wp2_with (fail)
                    go_meet
                    case rel => exact ⟨by rw [H2.out], rfl⟩
                  · have h2 : K3 = K := by rw [hK3, if_neg h1]
                    have H2 := Aside0.mk h2
                    clear hK3 h2
                    go_wp2_with (fail)
                    go_meet
                    case rel => exact ⟨by rw [H2.out], rfl⟩
                case rest =>
                  obtain ⟨rfl, rfl⟩ := hcut
                  clear hK3
                  go_wp2_with (go_at_call 56; refine HC.out.mono ?_; rintro e w5 ⟨v5, rfl, hb5⟩; have HB5 := Aside0.mk hb5; clear hb5)
                  go_ret
                  exact ⟨_, rfl, by rw [HTX3.out]; exact HB5.out⟩
      · have hK8 : K ≤ 8000 := (HSB2.out.ne (by decide)).2.1
        obtain ⟨ep0, hep0⟩ : ∃ ep0 : Int, ep0 = if (Dl.length : Int) < K ∧ De ≤ (Dl.length : Int) then (Dl.length : Int) else K := ⟨_, rfl⟩
        obtain ⟨ep, hep⟩ : ∃ ep : Int, ep = if Sh then 6 else ep0 := ⟨_, rfl⟩
        obtain ⟨Ee, hEe⟩ : ∃ Ee : Int, Ee = De - 1 := ⟨_, rfl⟩
        have hEw : IntKind.i64.wrap (De - 1) = Ee := by rw [IntWalk.i64_in _ (by omega), hEe]
        have hep9 : -1 ≤ ep ∧ ep ≤ 8000 := by
          have : -1 ≤ ep0 ∧ ep0 ≤ 8000 := by split at hep0 <;> omega
          split at hep <;> omega
        have HTX2 : Aside0 (TX = l1 ++ (if Ee < -4 ∨ ep ≤ Ee then fmtET (Dl, De) 69 ((if (Dl.length : Int) < K then (Dl.length : Int) else K) - 1) else fmtFT (Dl, De) (max ((if De < K then (Dl.length : Int) else K) - De) 0))) := ⟨by rw [HTX.out, hep, hep0, hEe]; rfl⟩
        have HEP := Aside0.mk hep
        have HEP0 := Aside0.mk hep0
        clear hEe hep hep0
        obtain ⟨C, hC⟩ : ∃ C : Bool, C = decide ((Dl.length : Int) < K ∧ De ≤ (Dl.length : Int)) := ⟨_, rfl⟩
        have HCC := Aside0.mk hC
        clear hC
        go_upto_region 50 with (fail)
        go_cut [152] (fun v152 wx => v152 = .bool C ∧ w4 = wx)
        case first => as_aux_lemma =>
          by_cases h1 : (Dl.length : Int) < K
          · by_cases h2 : De ≤ (Dl.length : Int)
            · have HE : Aside0 (C = true) := ⟨by rw [HCC.out]; exact decide_eq_true ⟨h1, h2⟩⟩
              go_wp2_with (fail)
              go_meet
              case rel => exact ⟨by rw [HE.out], rfl⟩
            · have HE : Aside0 (C = false) := ⟨by rw [HCC.out]; exact decide_eq_false (fun h => h2 h.2)⟩
              go_wp2_with (fail)
              go_meet
              case rel => exact ⟨by rw [HE.out], rfl⟩
          · have HE : Aside0 (C = false) := ⟨by rw [HCC.out]; exact decide_eq_false (fun h => h1 h.1)⟩
            go_wp2_with (fail)
            go_meet
            case rel => exact ⟨by rw [HE.out], rfl⟩
        case rest =>
          obtain ⟨rfl, rfl⟩ := hcut
          have HEC : Aside0 (ep0 = if C = true then (Dl.length : Int) else K) := ⟨by rw [HEP0.out, HCC.out]; simp only [decide_eq_true_eq]⟩
          go_upto_if 152 with (fail)
          go_cut [11] (fun v11 wx => v11 = .int .i64 ep0 ∧ w4 = wx)
          case first => as_aux_lemma =>
            cases C with
            | true =>
              have HE : Aside0 (ep0 = (Dl.length : Int)) := ⟨by rw [HEC.out]; rfl⟩
              go_wp2_with (fail)
              go_meet
              case rel => exact ⟨by rw [HE.out], rfl⟩
            | false =>
              have HE : Aside0 (ep0 = K) := ⟨by rw [HEC.out]; rfl⟩
              go_wp2_with (fail)
              go_meet
              case rel => exact ⟨by rw [HE.out], rfl⟩
          case rest =>
          obtain ⟨rfl, rfl⟩ := hcut
          clear HEC HCC
          go_upto_if 156 with (fail)
          go_cut [11] (fun v11 wx => v11 = .int .i64 ep ∧ w4 = wx)
          case first => as_aux_lemma =>
            cases Sh with
            | true =>
              have HE : Aside0 (ep = 6) := ⟨by rw [HEP.out]; rfl⟩
              go_wp2_with (fail)
              go_meet
              case rel => exact ⟨by rw [HE.out], rfl⟩
            | false =>
              have HE : Aside0 (ep = ep0) := ⟨by rw [HEP.out]; rfl⟩
              go_wp2_with (fail)
              go_meet
              case rel => exact ⟨by rw [HE.out], rfl⟩
          case rest =>
            obtain ⟨rfl, rfl⟩ := hcut
            clear HEP HEP0
            by_cases hE4 : Ee < -4
            · as_aux_lemma =>
              obtain ⟨K2, hK2⟩ : ∃ K2 : Int, K2 = if (Dl.length : Int) < K then (Dl.length : Int) else K := ⟨_, rfl⟩
              have hK29 : -1 ≤ K2 ∧ K2 ≤ 8000 := by split at hK2 <;> omega
              have hK2w : IntKind.i64.wrap (K2 - 1) = K2 - 1 := IntWalk.i64_in _ (by omega)
              have HC := Aside0.mk (HFE.out (by decide) 69 (K2 - 1) ⟨by omega, by omega⟩)
              have HTX3 : Aside0 (TX = l1 ++ fmtET (Dl, De) 69 (K2 - 1)) := ⟨by rw [HTX2.out, if_pos (by omega), hK2]⟩
              go_upto_if 171 with (fail)
              go_cut [3] (fun v3 wx => v3 = .int .i64 K2 ∧ w4 = wx)
              case first =>
                by_cases h1 : (Dl.length : Int) < K
                · have h2 : K2 = (Dl.length : Int) := by rw [hK2, if_pos h1]
                  have H2 := Aside0.mk h2
                  clear hK2 h2
                  go_wp2_with (fail)
                  go_meet
                  case rel => exact ⟨by rw [H2.out], rfl⟩
                · have h2 : K2 = K := by rw [hK2, if_neg h1]
                  have H2 := Aside0.mk h2
                  clear hK2 h2
                  go_wp2_with (fail)
                  go_meet
                  case rel => exact ⟨by rw [H2.out], rfl⟩
              case rest =>
                obtain ⟨rfl, rfl⟩ := hcut
                clear hK2
                go_wp2_with (go_at_call 55; refine HC.out.mono ?_; rintro e w5 ⟨v5, rfl, hb5⟩; have HB5 := Aside0.mk hb5; clear hb5)
                go_ret
                exact ⟨_, rfl, by rw [HTX3.out]; exact HB5.out⟩
            · by_cases hEp : ep ≤ Ee
              · as_aux_lemma =>
                obtain ⟨K2, hK2⟩ : ∃ K2 : Int, K2 = if (Dl.length : Int) < K then (Dl.length : Int) else K := ⟨_, rfl⟩
                have hK29 : -1 ≤ K2 ∧ K2 ≤ 8000 := by split at hK2 <;> omega
                have hK2w : IntKind.i64.wrap (K2 - 1) = K2 - 1 := IntWalk.i64_in _ (by omega)
                have HC := Aside0.mk (HFE.out (by decide) 69 (K2 - 1) ⟨by omega, by omega⟩)
                have HTX3 : Aside0 (TX = l1 ++ fmtET (Dl, De) 69 (K2 - 1)) := ⟨by rw [HTX2.out, if_pos (by omega), hK2]⟩
                go_upto_if 171 with (fail)
                go_cut [3] (fun v3 wx => v3 = .int .i64 K2 ∧ w4 = wx)
                case first =>
                  by_cases h1 : (Dl.length : Int) < K
                  · have h2 : K2 = (Dl.length : Int) := by rw [hK2, if_pos h1]
                    have H2 := Aside0.mk h2
                    clear hK2 h2
                    go_wp2_with (fail)
                    go_meet
                    case rel => exact ⟨by rw [H2.out], rfl⟩
                  · have h2 : K2 = K := by rw [hK2, if_neg h1]
                    have H2 := Aside0.mk h2
                    clear hK2 h2
                    go_wp2_with (fail)
                    go_meet
                    case rel => exact ⟨by rw [H2.out], rfl⟩
                case rest =>
                  obtain ⟨rfl, rfl⟩ := hcut
                  clear hK2
                  go_wp2_with (go_at_call 55; refine HC.out.mono ?_; rintro e w5 ⟨v5, rfl, hb5⟩; have HB5 := Aside0.mk hb5; clear hb5)
                  go_ret
                  exact ⟨_, rfl, by rw [HTX3.out]; exact HB5.out⟩
              · as_aux_lemma =>
                obtain ⟨K3, hK3⟩ : ∃ K3 : Int, K3 = if De < K then (Dl.length : Int) else K := ⟨_, rfl⟩
                have hK39 : -1 ≤ K3 ∧ K3 ≤ 8000 := by split at hK3 <;> omega
                have hK3w : IntKind.i64.wrap (K3 - De) = K3 - De := IntWalk.i64_in _ (by omega)
                have HC := Aside0.mk (HFF.out (max (K3 - De) 0) ⟨by omega, by omega⟩)
                have HTX3 : Aside0 (TX = l1 ++ fmtFT (Dl, De) (max (K3 - De) 0)) := ⟨by rw [HTX2.out, if_neg (by omega), hK3]⟩
                go_upto_if 186 with (fail)
                go_cut [3] (fun v3 wx => v3 = .int .i64 K3 ∧ w4 = wx)
                case first =>
                  by_cases h1 : De < K
                  · have h2 : K3 = (Dl.length : Int) := by rw [hK3, if_pos h1]
                    have H2 := Aside0.mk h2
                    clear hK3 h2
                    go_wp2_with (fail)
                    go_meet
                    case rel => exact ⟨by rw [H2.out], rfl⟩
                  · have h2 : K3 = K := by rw [hK3, if_neg h1]
                    have H2 := Aside0.mk h2
                    clear hK3 h2
                    go_wp2_with (fail)
                    go_meet
                    case rel => exact ⟨by rw [H2.out], rfl⟩
                case rest =>
                  obtain ⟨rfl, rfl⟩ := hcut
                  clear hK3
                  go_wp2_with (go_at_call 56; refine HC.out.mono ?_; rintro e w5 ⟨v5, rfl, hb5⟩; have HB5 := Aside0.mk hb5; clear hb5)
                  go_ret
                  exact ⟨_, rfl, by rw [HTX3.out]; exact HB5.out⟩
end Go.Proofs.YtfnknldbjckgoaaGreatDoor.Sp
