/-
  MERGED BY PROGRAM (regroup.py): Float, FloatA, Real, Real2.
-/
import Derived.Test.YtfnknldbjckgoaaGreatDoorZRound
import Derived.Test.YtfnknldbjckgoaaGreatDoorZGnat
import Derived.Test.YtfnknldbjckgoaaGreatDoorZBase
import Derived.Test.YtfnknldbjckgoaaGreatDoorZRow
import Derived.WalkKit
import Derived.ProofKit
import Derived.Laws.Pointers
/-! ## Float -/
section
namespace Go.Proofs.YtfnknldbjckgoaaGreatDoor.Sp
open Go.RowKit Go.Proofs.YtfnknldbjckgoaaGreatDoorW.PrintWords Go.Proofs.YtfnknldbjckgoaaGreatDoorW.PrintLast Go.Proofs.YtfnknldbjckgoaaGreatDoorW.PrintMore Go.Proofs.YtfnknldbjckgoaaGreatDoor.Dig
set_option linter.unusedVariables false
set_option linter.unusedSimpArgs false

/-- A block that holds no such value is not the one that is read. -/
theorem not_block {w : World} {a : Addr} {v : Value} {g : Nat} {cs : Array Value} {t : TypeId} (h : w.cell? a = some v) (hg : hp w g = some (.cells cs t (0, 0))) (hn : ∀ u ∈ cs, u ≠ v) : a.block ≠ g := by
  rintro rfl
  unfold World.cell? at h
  rw [hp_out hg] at h
  simp only at h
  split at h
  · cases h
  · exact hn v (Array.mem_of_getElem? h) rfl
/-! ### the plain side: mantissas that are rounded -/
/-- A mantissa that fits a precision: the top bit set, no more words than needed, nothing behind the last bit. -/
structure Canon (p : Nat) (L : List Int) : Prop where
  ok : okd BW L
  pos : 0 < L.length
  top : Top L
  len : L.length ≤ (p + 63) / 64
  low : ev BW L % 2 ^ (64 * L.length - p) = 0
theorem Canon.V_pos {p : Nat} {L : List Int} (h : Canon p L) : 0 < ev BW L := by
  have := (top_range h.ok h.pos h.top).1
  have := tp (64 * L.length - 1)
  omega
theorem round_canon {w w' : World} {g mb p c : Nat} {m E : Int} {neg : Bool} {L R : List Int} {e : Ending} (h : RoundPost w g mb p m neg c E L R false e w') (hc : Canon p L) (hp1 : 1 ≤ p) :
    e = .returned (.tuple #[]) ∧ Kept (On2 g mb) w w' ∧ ∃ R2, (L ++ R2).length = (L ++ R).length ∧ Flt w' g mb p m 0 1 neg L.length c E (L ++ R2) := by
  obtain ⟨h1, h2, h3⟩ := h
  refine ⟨h1, h2, ?_⟩
  rcases h3 with ⟨_, h3⟩ | ⟨hlt, L2, R2, h3, h4, h5, h6⟩
  · exact ⟨R, rfl, h3⟩
  · have hlen : L2.length = L.length := by have := hc.len; omega
    have hx := rq_exact neg m (ev BW L) (64 * L.length - p) hc.low
    have hr := top_range hc.ok hc.pos hc.top
    have hlt2 : ev BW L / 2 ^ (64 * L.length - p) < 2 ^ p := by
      apply Int.ediv_lt_of_lt_mul (tp _)
      rw [← Int.pow_add, show p + (64 * L.length - p) = 64 * L.length by omega]
      exact hr.2
    rw [hx.1, hx.2] at h3
    rw [hx.1] at h6
    have e1 : rexp p (ev BW L / 2 ^ (64 * L.length - p)) E = E := by unfold rexp; rw [if_neg (by omega)]
    have e2 : rmant p (ev BW L / 2 ^ (64 * L.length - p)) = ev BW L / 2 ^ (64 * L.length - p) := by unfold rmant; rw [if_neg (by omega)]
    rw [e1] at h3
    rw [e2, hlen, ← cut_mul, hc.low, Int.sub_zero] at h6
    have hL : L2 = L := ev_inj (okd_append.1 h3.ok).1 hc.ok hlen h6
    subst hL
    exact ⟨R2, h4, h3⟩
/-- The mantissa behind rounding is one that fits. -/
theorem rmant_range {p : Nat} {L : List Int} {neg : Bool} {m : Int} {sb : Bool} (hok : okd BW L) (h0 : 0 < L.length) (ht : Top L) (hp1 : 1 ≤ p) (hlt : p < 64 * L.length) : 2 ^ (p - 1) ≤ rmant p (rq neg m (ev BW L) (64 * L.length - p) sb) ∧ rmant p (rq neg m (ev BW L) (64 * L.length - p) sb) < 2 ^ p := by
  have hr := top_range hok h0 ht
  have h1 : ev BW L / 2 ^ (64 * L.length - p) < 2 ^ p := by
    apply Int.ediv_lt_of_lt_mul (tp _)
    rw [← Int.pow_add, show p + (64 * L.length - p) = 64 * L.length by omega]
    exact hr.2
  have h2 : 2 ^ (p - 1) ≤ ev BW L / 2 ^ (64 * L.length - p) := by
    apply Int.le_ediv_of_mul_le (tp _)
    rw [← Int.pow_add, show p - 1 + (64 * L.length - p) = 64 * L.length - 1 by omega]
    exact hr.1
  have h3 : (2 : Int) ^ p = 2 * 2 ^ (p - 1) := by
    obtain ⟨q, rfl⟩ : ∃ q, p = q + 1 := ⟨p - 1, by omega⟩
    rw [Nat.add_sub_cancel, Int.pow_succ, Int.mul_comm]
  have h4 := tp (p - 1)
  unfold rmant rq
  split <;> split <;> omega
theorem round_any {w w' : World} {g mb p c : Nat} {m E : Int} {neg : Bool} {L R : List Int} {sb : Bool} {e : Ending} (h : RoundPost w g mb p m neg c E L R sb e w') (hok : okd BW L) (h0 : 0 < L.length) (ht : Top L) (hp1 : 1 ≤ p) (hcan : 64 * L.length ≤ p → L.length ≤ (p + 63) / 64) :
    e = .returned (.tuple #[]) ∧ Kept (On2 g mb) w w' ∧ ∃ L2 R2 acc E2, (L2 ++ R2).length = (L ++ R).length ∧ Flt w' g mb p m acc 1 neg L2.length c E2 (L2 ++ R2) ∧ Canon p L2 ∧
      ((64 * L.length ≤ p ∧ L2 = L ∧ E2 = E ∧ acc = 0) ∨ (p < 64 * L.length ∧ L2.length = (p + 63) / 64 ∧ acc = rside neg m (ev BW L) (64 * L.length - p) sb ∧ E2 = rexp p (rq neg m (ev BW L) (64 * L.length - p) sb) E ∧ ev BW L2 = rmant p (rq neg m (ev BW L) (64 * L.length - p) sb) * 2 ^ (64 * L2.length - p))) := by
  obtain ⟨h1, h2, h3⟩ := h
  refine ⟨h1, h2, ?_⟩
  rcases h3 with ⟨hle, h3⟩ | ⟨hlt, L2, R2, h3, h4, h5, h6⟩
  · refine ⟨L, R, 0, E, rfl, h3, ⟨hok, h0, ht, by omega, ?_⟩, .inl ⟨hle, rfl, rfl, rfl⟩⟩
    rw [show 64 * L.length - p = 0 by omega]
    exact Int.emod_one _
  · have hr := rmant_range (neg := neg) (m := m) (sb := sb) hok h0 ht hp1 hlt
    have hl : 0 < L2.length := by omega
    have hok2 := (okd_append.1 h3.ok).1
    refine ⟨L2, R2, _, _, h4, h3, ⟨hok2, hl, ?_, by omega, ?_⟩, .inr ⟨hlt, h5, rfl, rfl, h6⟩⟩
    · refine top_of hok2 hl ?_
      rw [h6]
      have h7 := Int.mul_le_mul_of_nonneg_right hr.1 (Int.le_of_lt (tp (64 * L2.length - p)))
      rw [← Int.pow_add, show p - 1 + (64 * L2.length - p) = 64 * L2.length - 1 by omega] at h7
      exact h7
    · rw [h6, Int.mul_emod_left]

/-! ### setExpAndRound -/
set_option maxHeartbeats 1600000 in
set_option maxRecDepth 100000 in
theorem setExp_c (g mb p : Nat) (m acc f : Int) (neg : Bool) (c : Nat) (E E' : Int) (L R : List Int) (w : World) (h : Flt w g mb p m acc f neg L.length c E (L ++ R)) (hp1 : 1 ≤ p ∧ p < 4294967296) (hm : 0 ≤ m ∧ m < 6) (hE : -2147483648 ≤ E' ∧ E' < 2147483647) (h0 : 0 < L.length) (hbig : L.length ≤ 1000000) :
    Calls Tryz.prog 88 #[.pointer (some ⟨g, 0, none⟩), .int .i64 E', .int .u64 0] w (RoundPost w g mb p m neg c E' L R false) := by
  have h2 := (h.setForm 1).setExp E'
  have hk : Kept (On2 g mb) w ((w.setCell ⟨g, 3, none⟩ (.int .u8 1)).setCell ⟨g, 6, none⟩ (.int .i32 E')) := ((Kept.refl (On2 g mb) w).setCell (p := ⟨g, 3, none⟩) (.inl (On2.l g mb)) _).setCell (p := ⟨g, 6, none⟩) (.inl (On2.l g mb)) _
  have HR := Aside0.mk (round_c g mb p m acc neg c E' L R false 0 _ h2 hp1 hm hE h0 hbig rfl)
  have HK := Aside0.mk hk
  obtain ⟨c0, c1, c2, c3, c4, c5, c6, f0, f1, f2, f3, f4, f5, f6⟩ := blk7 h.flt
  have hw : IntKind.i32.wrap E' = E' := by rw [IntKind.wrap_i32]; omega
  clear h h2 hk
  go_enter Tryz.func88, Tryz.ntmps88
  go_wp2_with (fail)
  refine (HR.out).mono ?_
  rintro e w' ⟨rfl, h1, h2⟩
  have H1 := Aside0.mk (HK.out.then h1)
  have H2 := Aside0.mk h2
  clear h1 h2
  go_wp2_with (fail)
  first | go_end0 | refine bodyPost_ret (results_none rfl _ _ _) rfl ?_
  exact ⟨rfl, H1.out, H2.out⟩

/-! ### fnorm -/
def FnormPost (w : World) (mb : Nat) (L R : List Int) (b : Nat) (t : TypeId) (e : Ending) (w' : World) : Prop :=
  e = .returned (.int .i64 ((64 * L.length - b : Nat) : Int)) ∧ hp w' mb = some (.cells (u64s (wn L.length (ev BW L * 2 ^ (64 * L.length - b)) ++ R)) t (0, 0)) ∧ Kept (On mb) w w'
set_option maxHeartbeats 1600000 in
set_option maxRecDepth 100000 in
theorem fnorm_c (mb c : Nat) (L R : List Int) (b : Nat) (t : TypeId) (w : World) (hz : hp w mb = some (.cells (u64s (L ++ R)) t (0, 0))) (hc : Cn BW L) (h0 : 0 < L.length) (hbig : L.length ≤ 1000000) (hb : Bits (ev BW L) b) :
    Calls Tryz.prog 87 #[.slice (some ⟨mb, 0, none⟩) L.length c] w (FnormPost w mb L R b t) := by
  obtain ⟨k, hk⟩ : ∃ k, L.length = k + 1 := ⟨L.length - 1, by omega⟩
  have hx := (blk_cell hz k).trans (u64s_get _ k (by rw [List.length_append]; omega))
  have e0 : (L ++ R).getD k 0 = L.getD k 0 := by simp only [List.getD_eq_getElem?_getD]; rw [List.getElem?_append_left (by omega)]
  rw [e0] at hx
  have hg := okd_get hc.ok BW_pos k
  obtain ⟨x, hxx⟩ : ∃ x, x = L.getD k 0 := ⟨_, rfl⟩
  rw [← hxx] at hx hg
  obtain ⟨tb, ht⟩ := Bits.exists x hg.1
  have hne : L ≠ [] := by intro e; rw [e] at h0; simp at h0
  have hbt := hb.uniq (len_topW L hc tb hne (by rw [hk, Nat.add_sub_cancel, ← hxx]; exact ht))
  have htl : tb ≤ 64 := ht.le (by rw [← BW_two]; exact hg.2)
  have hs : 64 * L.length - b = 64 - tb := by omega
  have hnlz : ∀ W, Calls Tryz.prog 114 #[.int .u64 x] W fun e w' => e = .returned (.int .u64 ((64 - tb : Nat) : Int)) ∧ W = w' := fun W => nlz_c x tb W hg ht
  unfold FnormPost
  rw [hs]
  obtain ⟨s, hss⟩ : ∃ s, s = 64 - tb := ⟨_, rfl⟩
  rw [← hss] at hnlz ⊢
  have htb0 : 0 < tb := ht.pos (by
    have h4 := hc.top (L.getD (L.length - 1) 0) (by rw [List.getLast?_eq_getElem?, List.getD_eq_getElem?_getD, List.getElem?_eq_getElem (by omega)]; rfl)
    rw [hk, Nat.add_sub_cancel, ← hxx] at h4
    omega)
  have hs64 : s < 64 := by omega
  have HN := Aside0.mk hnlz
  have hw : IntKind.i64.wrap (s : Int) = (s : Int) := IntWalk.i64_in _ (by omega)
  by_cases hs0 : s = 0
  · have HP : Aside0 (hp w mb = some (.cells (u64s (wn L.length (ev BW L * 2 ^ s) ++ R)) t (0, 0))) := ⟨by rw [hs0, Int.pow_zero, Int.mul_one, wn_ev hc.ok]; exact hz⟩
    have hsd : decide (0 < s) = false := decide_eq_false (by omega)
    rw [hk] at HP ⊢
    clear hz hc hb ht hbt hnlz hss hxx hs hs0
    go_enter Tryz.func87, Tryz.ntmps87
    go_wp2_with (go_at_call 114; refine (HN.out _).mono ?_; rintro e w' ⟨rfl, rfl⟩)
    go_ret
    exact ⟨rfl, HP.out, Kept.refl _ _⟩
  · have hsd : decide (0 < s) = true := decide_eq_true (by omega)
    have hsh := lshVU_c mb 0 c mb 0 c (L ++ R) L s t w ⟨by omega, hs64⟩ hz (by rw [Nat.zero_add, List.length_append]; omega) ⟨fun j hj => by
      have h1 := (blk_cell hz (0 + j)).trans (u64s_get _ (0 + j) (by rw [List.length_append]; omega))
      rw [h1, Nat.zero_add]
      simp only [List.getD_eq_getElem?_getD, List.getElem?_append_left hj], .inr ⟨rfl, rfl⟩⟩ h0 (by omega) hc.ok
    have hu := upd_all [] L R (ev BW L * 2 ^ s)
    rw [List.nil_append, List.length_nil, List.nil_append] at hu
    unfold ShiftPost at hsh
    rw [hu] at hsh
    have HSH := Aside0.mk hsh
    have HKK := Aside0.mk hk
    rw [hk] at HSH ⊢
    clear hz hc hb ht hbt hnlz hss hxx hs hs0 hsh hu
    go_enter Tryz.func87, Tryz.ntmps87
    go_wp2_with (first | (go_at_call 114; refine (HN.out _).mono ?_; rintro e w' ⟨rfl, rfl⟩) | (go_at_call 95; refine (HSH.out).mono ?_; rintro e w' ⟨rfl, h1, h2⟩; have H1 := Aside0.mk h1; have H2 := Aside0.mk h2; clear h1 h2))
    go_ret
    exact ⟨rfl, H1.out, H2.out⟩

/-! ### SetInt onto a Float without a mantissa -/
/-- A Float in block g whose mantissa is nil. -/
def Flt0 (w : World) (g : Nat) (p m acc f : Int) (neg : Bool) (E : Int) : Prop := hp w g = some (.cells #[.int .u32 p, .int .u8 m, .int .i8 acc, .int .u8 f, .bool neg, .slice none 0 0, .int .i32 E] 83 (0, 0))
/-- What SetInt leaves: the words, shifted up to the top. -/
def SetIntPost (w : World) (g p : Nat) (m : Int) (neg : Bool) (v : Int) (b : Nat) (e : Ending) (w' : World) : Prop :=
  e = .returned (.pointer (some ⟨g, 0, none⟩)) ∧ Kept (On g) w w' ∧ ∃ mb L R, w.heap.size ≤ mb ∧ Flt w' g mb p m 0 1 neg L.length (L ++ R).length b (L ++ R) ∧ Canon p L ∧ ev BW L = v * 2 ^ (64 * L.length - b) ∧ 64 * L.length < b + 64 ∧ b ≤ 64 * L.length
theorem canon_of {l : List Int} {b p : Nat} (hc : Cn BW l) (h0 : 0 < ev BW l) (hb : Bits (ev BW l) b) (hbp : b ≤ p) : 0 < l.length ∧ Canon p (wn l.length (ev BW l * 2 ^ (64 * l.length - b))) ∧ ev BW (wn l.length (ev BW l * 2 ^ (64 * l.length - b))) = ev BW l * 2 ^ (64 * l.length - b) ∧ 64 * l.length < b + 64 ∧ b ≤ 64 * l.length := by
  have hl : 0 < l.length := by
    rcases Nat.eq_zero_or_pos l.length with h | h
    · have : l = [] := List.eq_nil_of_length_eq_zero h
      rw [this, ev_nil] at h0
      omega
    · exact h
  have hne : l ≠ [] := by intro e; rw [e] at hl; simp at hl
  have h1 := ev_lt hc.ok BW_pos
  have h2 := Cn_len_ge hc BW_pos hne
  have e1 : BW ^ l.length = 2 ^ (64 * l.length) := by rw [BW_two, ← Int.pow_mul]
  have e2 : BW ^ (l.length - 1) = 2 ^ (64 * (l.length - 1)) := by rw [BW_two, ← Int.pow_mul]
  rw [e1] at h1
  rw [e2] at h2
  have hb1 : b ≤ 64 * l.length := hb.le h1
  have hb2 : 64 * (l.length - 1) < b := by
    rcases Nat.lt_or_ge (64 * (l.length - 1)) b with h | h
    · exact h
    · exfalso
      have h3 := hb.2.1
      have h4 : (2 : Int) ^ b ≤ 2 ^ (64 * (l.length - 1)) := pow_mono (by omega) h
      omega
  have hb3 : 2 ^ (b - 1) ≤ ev BW l := by
    rcases hb.2.2 with h | h
    · omega
    · exact h
  have h5 : ev BW l * 2 ^ (64 * l.length - b) < 2 ^ (64 * l.length) := by
    have h6 := Int.mul_lt_mul_of_pos_right hb.2.1 (tp (64 * l.length - b))
    rwa [← Int.pow_add, show b + (64 * l.length - b) = 64 * l.length by omega] at h6
  have h7 : 2 ^ (64 * l.length - 1) ≤ ev BW l * 2 ^ (64 * l.length - b) := by
    have h6 := Int.mul_le_mul_of_nonneg_right hb3 (Int.le_of_lt (tp (64 * l.length - b)))
    rwa [← Int.pow_add, show b - 1 + (64 * l.length - b) = 64 * l.length - 1 by omega] at h6
  have hv : ev BW (wn l.length (ev BW l * 2 ^ (64 * l.length - b))) = ev BW l * 2 ^ (64 * l.length - b) := ev_wn_lt _ _ (Int.mul_nonneg (Int.le_of_lt h0) (Int.le_of_lt (tp _))) (by rw [e1]; exact h5)
  have hwl : (wn l.length (ev BW l * 2 ^ (64 * l.length - b))).length = l.length := wn_len _ _
  refine ⟨hl, ⟨wn_ok _ _, by rw [hwl]; exact hl, ?_, by rw [hwl]; omega, ?_⟩, hv, by omega, hb1⟩
  · refine top_of (wn_ok _ _) (by rw [hwl]; exact hl) ?_
    rw [hv, hwl]
    exact h7
  · rw [hv, hwl]
    rcases Nat.le_total (64 * l.length) p with h | h
    · rw [show 64 * l.length - p = 0 by omega]; exact Int.emod_one _
    · obtain ⟨q, hq⟩ : ∃ q, 64 * l.length - b = (64 * l.length - p) + q := ⟨p - b, by omega⟩
      rw [hq, Int.pow_add, ← Int.mul_assoc, Int.mul_right_comm, Int.mul_emod_left]
set_option maxHeartbeats 6400000 in
set_option maxRecDepth 100000 in
theorem setInt_c (g gx p : Nat) (m acc f : Int) (neg nx : Bool) (E v : Int) (b : Nat) (w : World) (h : Flt0 w g p m acc f neg E) (hp1 : 1 ≤ p ∧ p < 4294967296) (hm : 0 ≤ m ∧ m < 6) (hx : IntB w gx nx v) (hne : gx ≠ g) (hv : 0 < v) (hvl : v < 2 ^ 1000000) (hb : Bits v b) (hbp : b ≤ p) :
    Calls Tryz.prog 60 #[.pointer (some ⟨g, 0, none⟩), .pointer (some ⟨gx, 0, none⟩)] w (SetIntPost w g p m nx v b) := by
  obtain ⟨vx, hgx, A, cx, l, rfl, hlc, hC, hcn, rfl⟩ := hx
  obtain ⟨hl0, hcan, hev, hb64, hb64'⟩ := canon_of hcn hv hb hbp
  have hb1 : b ≤ 1000000 := hb.le hvl
  obtain ⟨a, rfl⟩ : ∃ a, A = some a := by
    obtain ⟨ad, e, _⟩ := hC.2.2 hl0
    exact ⟨ad, e⟩
  have hal : a.block < w.heap.size := by
    have h1 := World.block_lt_of_cell? w _ (C_at hC 0 hl0)
    exact h1
  obtain ⟨c0, c1, c2, c3, c4, c5, c6, f0, f1, f2, f3, f4, f5, f6⟩ := blk7 h
  obtain ⟨x0, x1, _, _⟩ := blk2 hgx
  have lg := hp_lt h
  have lx := hp_lt hgx
  have H := Aside0.mk h
  have HGX := Aside0.mk hgx
  have HC := Aside0.mk hC
  have HCN := Aside0.mk hcn
  have HB := Aside0.mk hb
  have HCAN := Aside0.mk hcan
  have HEV := Aside0.mk hev
  have hpz : ((p : Int) == 0) = false := by rw [beq_eq_false_iff_ne]; omega
  have hbl : ∀ W, Kd.C (Kd.int .u64) W (some a) l.length l → Calls Tryz.prog 52 #[.slice (some a) l.length cx] W fun e w' => e = .returned (.int .i64 (b : Int)) ∧ W = w' := fun W hW => bitLen_c (some a) cx l b W hW hlc (by omega) hcn hb
  have HBL := Aside0.mk hbl
  have hbw : IntKind.u32.wrap (b : Int) = (b : Int) := by rw [IntKind.wrap_u32']; omega
  have hl0b : ((l.length : Int) == 0) = false := by rw [beq_eq_false_iff_ne]; omega
  clear h hgx hC hcn hb hcan hev hbl hv hvl
  go_enter Tryz.func60, Tryz.ntmps60
  go_wp2_with (first | (go_at_call 52; refine (HBL.out _ HC.out).mono ?_; rintro e w' ⟨rfl, rfl⟩) | (go_at_call 86; go_in))
  obtain ⟨w1, hw1⟩ : ∃ w1, w1 = (w.setCell ⟨g, 2, none⟩ (.int .i8 0)).setCell ⟨g, 4, none⟩ (.bool nx) := ⟨_, rfl⟩
  have hK1 : Kept (On g) w w1 := by rw [hw1]; exact ((Kept.refl (On g) w).setCell (p := ⟨g, 2, none⟩) (.inl rfl) _).setCell (p := ⟨g, 4, none⟩) (.inl rfl) _
  have hF1 : Flt0 w1 g p m 0 f nx E := by rw [hw1]; unfold Flt0; rw [hp_here _ _ _ _ _ rfl, hp_here _ _ _ _ _ rfl, H.out]; rfl
  have hag : ¬ On g a.block := by
    have h1 := not_block (C_at HC.out 0 hl0) (show hp w g = _ from H.out) (by simp)
    rwa [show (a.add 0).block = a.block from by unfold Addr.add; split <;> rfl] at h1
  have hC1 : Kd.C (Kd.int .u64) w1 (some a) l.length l := C_kept hK1 HC.out (fun _ => hag)
  have hx1 : hp w1 gx = some (.cells #[.bool nx, .slice (some a) l.length cx] 120 (0, 0)) := hp_kept HGX.out hK1 hne
  rw [← hw1]
  have HSET := Aside0.mk (set_c (.slice none 0 0) (fun _ => False) a cx l w1.drew (.inl rfl) (show Kd.C (Kd.int .u64) w1.drew (some a) l.length l from ⟨hC1.1, hC1.2.1, hC1.2.2⟩) HCN.out.ok hl0 (by omega) (fun h => h) (Nat.lt_of_lt_of_le hal hK1.size))
  have HK1 := Aside0.mk hK1
  have HF1 := Aside0.mk hF1
  have hs1 : w.heap.size ≤ w1.heap.size := hK1.size
  clear hw1 c0 c1 c2 c3 c4 c5 c6 f0 f1 f2 f3 f4 f5 f6 x0 x1 hK1 hC1 hag
  obtain ⟨c0, c1, c2, c3, c4, c5, c6, f0, f1, f2, f3, f4, f5, f6⟩ := blk7 hF1
  obtain ⟨x0, x1, _, _⟩ := blk2 hx1
  have lg1 := hp_lt hF1
  have lx1 := hp_lt hx1
  clear hF1 hx1
  refine start_ (n := 13) (S := fun w' => w'.cell? ⟨g, 5, none⟩ = some (.slice none 0 0) ∧ w'.cell? ⟨gx, 1, none⟩ = some (.slice (some a) l.length cx)) (ds := [12]) #[false, false, false, false, false, false, false, false, false, false, false, false, false] (by kernel_rfl) rfl rfl ⟨(by go_simp), (by go_simp)⟩ (fun hHeld => ?_)
  refine pure_ (i := 0) (N := some 39) (v := ?_) (a' := ?_) #[true, false, false, false, false, false, false, false, false, false, false, false, false] rfl rfl (by kernel_rfl) (fun _ _ _ h => h) (Or.inl ⟨by rfl, ?_⟩) ?_ ?_
  rotate_left
  · intro w'
    go_simp
    with_reducible rfl
  rotate_left
  · simp only [Act.put, List.setIfInBounds_toArray, List.set_cons_zero, List.set_cons_succ, i64_w, i32_w]
    rfl
  refine pure_ (i := 1) (N := some 40) (v := ?_) (a' := ?_) #[true, true, false, false, false, false, false, false, false, false, false, false, false] rfl rfl (by kernel_rfl) (fun _ _ _ h => h) (Or.inl ⟨by rfl, ?_⟩) ?_ ?_
  rotate_left
  · intro w'
    go_simp
    with_reducible rfl
  rotate_left
  · simp only [Act.put, List.setIfInBounds_toArray, List.set_cons_zero, List.set_cons_succ, i64_w, i32_w]
    rfl
  refine pure_ (i := 2) (N := some 41) (v := ?_) (a' := ?_) #[true, true, true, false, false, false, false, false, false, false, false, false, false] rfl rfl (by kernel_rfl) (fun _ _ _ h => h) (Or.inl ⟨by rfl, ?_⟩) ?_ ?_
  rotate_left
  · intro w'
    go_simp
    with_reducible rfl
  rotate_left
  · simp only [Act.put, List.setIfInBounds_toArray, List.set_cons_zero, List.set_cons_succ, i64_w, i32_w]
    rfl
  refine pure_ (i := 3) (N := some 42) (v := ?_) (a' := ?_) #[true, true, true, true, false, false, false, false, false, false, false, false, false] rfl rfl (by kernel_rfl) (fun _ _ _ h => h) (Or.inl ⟨by rfl, ?_⟩) ?_ ?_
  rotate_left
  · intro w'
    go_simp
    with_reducible rfl
  rotate_left
  · simp only [Act.put, List.setIfInBounds_toArray, List.set_cons_zero, List.set_cons_succ, i64_w, i32_w]
    rfl
  refine pure_ (i := 5) (N := some 44) (v := ?_) (a' := ?_) #[true, true, true, true, false, true, false, false, false, false, false, false, false] rfl rfl (by kernel_rfl) (fun _ _ _ h => h) (Or.inl ⟨by rfl, ?_⟩) ?_ ?_
  rotate_left
  · intro w'
    go_simp
    with_reducible rfl
  rotate_left
  · simp only [Act.put, List.setIfInBounds_toArray, List.set_cons_zero, List.set_cons_succ, i64_w, i32_w]
    rfl
  refine pure_ (i := 6) (N := some 45) (v := ?_) (a' := ?_) #[true, true, true, true, false, true, true, false, false, false, false, false, false] rfl rfl (by kernel_rfl) (fun _ _ _ h => h) (Or.inl ⟨by rfl, ?_⟩) ?_ ?_
  rotate_left
  · intro w'
    go_simp
    with_reducible rfl
  rotate_left
  · simp only [Act.put, List.setIfInBounds_toArray, List.set_cons_zero, List.set_cons_succ, i64_w, i32_w]
    rfl
  refine pure_ (i := 7) (N := some 46) (v := ?_) (a' := ?_) #[true, true, true, true, false, true, true, true, false, false, false, false, false] rfl rfl (by kernel_rfl) (fun _ _ _ h => h) (Or.inl ⟨by rfl, ?_⟩) ?_ ?_
  rotate_left
  · intro w'
    go_simp
    with_reducible rfl
  rotate_left
  · simp only [Act.put, List.setIfInBounds_toArray, List.set_cons_zero, List.set_cons_succ, i64_w, i32_w]
    rfl
  refine take_ (i := 4) (N := some 43) (v := ?_) (a' := ?_) #[true, true, true, true, true, true, true, true, false, false, false, false, false] rfl rfl (by kernel_rfl) (fun _ _ _ h => h) (Or.inl ⟨by rfl, ?_⟩) hHeld ?_ ?_
  rotate_left
  · rintro w' ⟨s0, s1⟩
    go_simp
    with_reducible rfl
  rotate_left
  · simp only [Act.put, List.setIfInBounds_toArray, List.set_cons_zero, List.set_cons_succ, i64_w, i32_w]
    rfl
  refine take_ (i := 8) (N := some 47) (v := ?_) (a' := ?_) #[true, true, true, true, true, true, true, true, true, false, false, false, false] rfl rfl (by kernel_rfl) (fun _ _ _ h => h) (Or.inl ⟨by rfl, ?_⟩) hHeld ?_ ?_
  rotate_left
  · rintro w' ⟨s0, s1⟩
    go_simp
    with_reducible rfl
  rotate_left
  · simp only [Act.put, List.setIfInBounds_toArray, List.set_cons_zero, List.set_cons_succ, i64_w, i32_w]
    rfl
  refine one_ (i := 9) (N := some 48) #[true, true, true, true, true, true, true, true, true, true, false, false, false] rfl rfl (by kernel_rfl) (by decide) (fun K hK => ?_)
  refine goes_ Tryz.func78 (by kernel_rfl) rfl #[.slice none 0 0, .slice (some a) l.length cx] (by rfl) rfl rfl (by simp only [List.map_toArray, List.map_cons, List.map_nil]; rfl) ?_
  with_reducible refine (HSET.out).mono ?_
  rintro e w2 ⟨mb, R, cc, rfl, hcc, hmx, hmb, hm, hokR, hk2⟩
  refine ⟨_, rfl, ?_⟩
  have HCC := Aside0.mk hcc
  have hmb2 : mb = w1.heap.size := by rcases hmb with h | h; exact h.elim; exact h
  have q0 := hk2.cell (p := ⟨g, 5, none⟩) hHeld.1 (fun h => h)
  have q1 := hk2.cell (p := ⟨gx, 1, none⟩) hHeld.2 (fun h => h)
  have HM2 := Aside0.mk hm
  have HO2 := Aside0.mk hokR
  have HK2 := Aside0.mk hk2
  have lg2 := hp_lt (hp_kept (show hp w1.drew g = _ from HF1.out) hk2 (fun h => h))
  have r5 : w2.frozen? ⟨g, 5, none⟩ = false := blk_frozen (hp_kept (show hp w1.drew g = _ from HF1.out) hk2 (fun h => h)) 5
  clear hcc hmb hm hokR hk2 c0 c1 c2 c3 c4 c5 c6 f0 f1 f2 f3 f4 f5 f6 x0 x1
  refine hK.out _ _ ⟨q0, q1⟩ (fun hHeld => ?_)
  clear hK K
  refine norm_ (a' := ?_) ?_ ?_
  rotate_left
  · show Act.put _ (some 48) _ = _
    simp only [Act.put, List.setIfInBounds_toArray, List.set_cons_zero, List.set_cons_succ, i64_w, i32_w]
    rfl
  refine pure_ (i := 10) (N := some 49) (v := ?_) (a' := ?_) #[true, true, true, true, true, true, true, true, true, true, true, false, false] rfl rfl (by kernel_rfl) (fun _ _ _ h => h) (Or.inl ⟨by rfl, ?_⟩) ?_ ?_
  rotate_left
  · intro w'
    go_simp
    with_reducible rfl
  rotate_left
  · simp only [Act.put, List.setIfInBounds_toArray, List.set_cons_zero, List.set_cons_succ, i64_w, i32_w]
    rfl
  refine pure_ (i := 11) (N := some 50) (v := ?_) (a' := ?_) #[true, true, true, true, true, true, true, true, true, true, true, true, false] rfl rfl (by kernel_rfl) (fun _ _ _ h => h) (Or.inl ⟨by rfl, ?_⟩) ?_ ?_
  rotate_left
  · intro w'
    go_simp
    with_reducible rfl
  rotate_left
  · simp only [Act.put, List.setIfInBounds_toArray, List.set_cons_zero, List.set_cons_succ, i64_w, i32_w]
    rfl
  refine last_ (i := 12) (N := none) #[true, true, true, true, true, true, true, true, true, true, true, true, true] rfl rfl (by kernel_rfl) (by decide) (fun K hK => ?_)
  refine skip_ (w1 := ?_) (by rfl) rfl ?_ ?_
  rotate_left
  · go_simp
    rfl
  refine hK.out _ _ ?_
  clear hK K
  refine done_ (by kernel_rfl) ?_
  subst hmb2
  have hF2 : Flt0 w2 g p m 0 f nx E := hp_kept (show hp w1.drew g = _ from HF1.out) HK2.out (fun h => h)
  obtain ⟨w3, hw3⟩ : ∃ w3, w3 = w2.setCell ⟨g, 5, none⟩ (.slice (some ⟨w1.heap.size, 0, none⟩) l.length cc) := ⟨_, rfl⟩
  have hgm : g ≠ w1.heap.size := by omega
  have hF3 : Flt w3 g w1.heap.size p m 0 f nx l.length cc E (l ++ R) := by
    rw [hw3]
    exact ⟨by rw [hp_here _ _ _ _ _ rfl, show hp w2 g = _ from hF2]; rfl, by rw [hp_other _ _ _ _ hgm]; exact HM2.out, hgm, HO2.out, by rw [HCC.out]; have := HCC.out; rw [List.length_append] at this; omega, by have := HCC.out; rw [List.length_append] at this; omega, by rw [HCC.out]; exact hmx⟩
  have hK3 : Kept (On g) w w3 := by
    rw [hw3]
    exact (HK1.out.drew.trans HK2.out (fun i _ h => h.elim)).setCell (p := ⟨g, 5, none⟩) (.inl rfl) _
  rw [← hw3]
  have HF3 := Aside0.mk hF3
  have HK3 := Aside0.mk hK3
  have HFN := Aside0.mk (fnorm_c w1.heap.size cc l R b 108 w3 hF3.mant HCN.out hl0 (by omega) HB.out)
  clear hw3 hF2 hF3 hK3 HM2 HK2 HF1 HK1 HSET q0 q1 hHeld lg2 r5
  obtain ⟨c0, c1, c2, c3, c4, c5, c6, f0, f1, f2, f3, f4, f5, f6⟩ := blk7 HF3.out.flt
  have lg3 := hp_lt HF3.out.flt
  go_wp2_with (fail)
  refine (HFN.out).mono ?_
  rintro e w4 ⟨rfl, hm4, hk4⟩
  obtain ⟨V', hV'⟩ : ∃ V', V' = ev BW l * 2 ^ (64 * l.length - b) := ⟨_, rfl⟩
  rw [← hV'] at hm4 HCAN HEV
  have hWl : (wn l.length V').length = l.length := wn_len _ _
  have hF4 : Flt w4 g w1.heap.size p m 0 f nx (wn l.length V').length cc E (wn l.length V' ++ R) := by
    have h1 := HF3.out.max
    rw [List.length_append] at h1
    exact ⟨by rw [hWl]; exact hp_kept HF3.out.flt hk4 hgm, hm4, hgm, okd_append.2 ⟨wn_ok _ _, (okd_append.1 HF3.out.ok).2⟩, by rw [List.length_append]; omega, by rw [hWl]; exact HF3.out.lec, by rw [List.length_append, hWl]; exact h1⟩
  have hsx := setExp_c g w1.heap.size p m 0 f nx _ E b (wn l.length V') R w4 hF4 hp1 hm (by omega) (by rw [hWl]; exact hl0) (by rw [hWl]; omega)
  have HSX := Aside0.mk hsx
  have HK4 := Aside0.mk (HK3.out.trans hk4 (T := On w1.heap.size) (fun i hi h => by
    have : i = w1.heap.size := h
    omega))
  have HF4 := Aside0.mk hF4
  have HWL := Aside0.mk hWl
  have HV := Aside0.mk hV'
  clear hm4 hk4 hF4 hsx hWl hV' HF3 HK3 HFN c0 c1 c2 c3 c4 c5 c6 f0 f1 f2 f3 f4 f5 f6
  go_wp2_with (fail)
  refine (HSX.out).mono ?_
  intro e w5 hr
  obtain ⟨rfl, hk5, R2, hlen, hF5⟩ := round_canon hr HCAN.out hp1.1
  have HK5 := Aside0.mk (HK4.out.trans hk5 (fun i hi h => by
    rcases h with h | h
    · exact h
    · omega))
  have HF5 := Aside0.mk hF5
  have HLN := Aside0.mk hlen
  clear hr hk5 hF5 hlen HSX HK4 HF4
  go_wp2_with (fail)
  go_ret
  refine ⟨rfl, HK5.out, w1.heap.size, wn l.length V', R2, hs1, ?_, HCAN.out, ?_, ?_, ?_⟩
  · have h1 : (wn l.length V' ++ R2).length = cc := by rw [HLN.out, ← HCC.out, List.length_append, List.length_append, HWL.out]
    rw [h1]; exact HF5.out
  · rw [HEV.out, HWL.out, HV.out]
  · rw [HWL.out]; exact hb64
  · rw [HWL.out]; exact hb64'

/-! ### Copy -/
/-- A Float in block g, whatever it holds; its mantissa may be written onto (S). -/
def FltD (w : World) (g : Nat) (S : Nat → Prop) : Prop := ∃ (a0 a1 a2 a3 : Int) (a4 : Bool) (A : Option Addr) (nm cm : Nat) (a6 : Int), hp w g = some (.cells #[.int .u32 a0, .int .u8 a1, .int .i8 a2, .int .u8 a3, .bool a4, .slice A nm cm, .int .i32 a6] 83 (0, 0)) ∧ Dst w (.slice A nm cm) S ∧ ¬ S g
def AndOn (S : Nat → Prop) (g : Nat) : Nat → Prop := fun i => i = g ∨ S i
def CopyPost (w : World) (g : Nat) (S : Nat → Prop) (p : Nat) (m acc : Int) (neg : Bool) (E : Int) (L : List Int) (e : Ending) (w' : World) : Prop :=
  e = .returned (.pointer (some ⟨g, 0, none⟩)) ∧ Kept (AndOn S g) w w' ∧ ∃ mb R c, (S mb ∨ w.heap.size ≤ mb) ∧ (L ++ R).length = c ∧ Flt w' g mb p m acc 1 neg L.length c E (L ++ R)
set_option maxHeartbeats 6400000 in
set_option maxRecDepth 100000 in
theorem copy_c (g gx mx p : Nat) (S : Nat → Prop) (m acc : Int) (neg : Bool) (c : Nat) (E : Int) (L R : List Int) (w : World) (hd : FltD w g S) (h : Flt w gx mx p m acc 1 neg L.length c E (L ++ R)) (hne : g ≠ gx) (h0 : 0 < L.length) (hbig : L.length ≤ 900000) (hS1 : ¬ S gx) (hS2 : ¬ S mx) :
    Calls Tryz.prog 91 #[.pointer (some ⟨g, 0, none⟩), .pointer (some ⟨gx, 0, none⟩)] w (CopyPost w g S p m acc neg E L) := by
  obtain ⟨a0, a1, a2, a3, a4, A, nm, cm, a6, hz, hdst, hSg⟩ := hd
  have hmg : mx ≠ g := by
    have hw := h.word 0 (by rw [List.length_append]; omega)
    exact not_block hw.1 hz (by simp)
  have hq := neq_other 54 83 Tryz.underlying54 infoFloat (by decide) (a := ⟨g, 0, none⟩) (b := ⟨gx, 0, none⟩) (w := w) (by simp [hne]) hz h.flt
  obtain ⟨z0, z1, z2, z3, z4, z5, z6, e0, e1, e2, e3, e4, e5, e6⟩ := blk7 hz
  obtain ⟨c0, c1, c2, c3, c4, c5, c6, f0, f1, f2, f3, f4, f5, f6⟩ := blk7 h.flt
  have H := Aside0.mk h
  have HZ := Aside0.mk hz
  have HD := Aside0.mk hdst
  have lg := hp_lt hz
  have lx := hp_lt h.flt
  have hne' : gx ≠ g := fun e => hne e.symm
  clear h hz hdst
  go_enter Tryz.func91, Tryz.ntmps91
  go_wp2_with (fail)
  obtain ⟨w1, hw1⟩ : ∃ w1, w1 = ((((w.setCell ⟨g, 0, none⟩ (.int .u32 p)).setCell ⟨g, 1, none⟩ (.int .u8 m)).setCell ⟨g, 2, none⟩ (.int .i8 acc)).setCell ⟨g, 3, none⟩ (.int .u8 1)).setCell ⟨g, 4, none⟩ (.bool neg) := ⟨_, rfl⟩
  have hK1 : Kept (On g) w w1 := by rw [hw1]; exact (((((Kept.refl (On g) w).setCell (p := ⟨g, 0, none⟩) (.inl rfl) _).setCell (p := ⟨g, 1, none⟩) (.inl rfl) _).setCell (p := ⟨g, 2, none⟩) (.inl rfl) _).setCell (p := ⟨g, 3, none⟩) (.inl rfl) _).setCell (p := ⟨g, 4, none⟩) (.inl rfl) _
  have hz1 : hp w1 g = some (.cells #[.int .u32 p, .int .u8 m, .int .i8 acc, .int .u8 1, .bool neg, .slice A nm cm, .int .i32 a6] 83 (0, 0)) := by
    rw [hw1, hp_here _ _ _ _ _ rfl, hp_here _ _ _ _ _ rfl, hp_here _ _ _ _ _ rfl, hp_here _ _ _ _ _ rfl, hp_here _ _ _ _ _ rfl, HZ.out]; rfl
  have hF1 : Flt w1 gx mx p m acc 1 neg L.length c E (L ++ R) := H.out.kept hK1 hne' hmg
  have hD1 : Dst w1 (.slice A nm cm) S := HD.out.kept hK1 (fun i hi e => by
    have : i = g := e
    exact hSg (this ▸ hi))
  rw [← hw1]
  have hC1 := hF1.C
  rw [List.take_left' rfl] at hC1
  have HSET := Aside0.mk (set_c (.slice A nm cm) S ⟨mx, 0, none⟩ c L w1.drew (hD1.kept (w' := w1.drew) (T := fun _ => False) ((Kept.refl _ _).drew) (fun _ _ h => h)) (show Kd.C (Kd.int .u64) w1.drew (some ⟨mx, 0, none⟩) L.length L from ⟨hC1.1, hC1.2.1, hC1.2.2⟩) (okd_append.1 hF1.ok).1 h0 hbig hS2 (hp_lt (show hp w1.drew mx = _ from hF1.drew.mant)))
  have HK1 := Aside0.mk hK1
  have HZ1 := Aside0.mk hz1
  have HF1 := Aside0.mk hF1
  have hs1 : w.heap.size ≤ w1.heap.size := hK1.size
  clear hw1 z0 z1 z2 z3 z4 z5 z6 e0 e1 e2 e3 e4 e5 e6 c0 c1 c2 c3 c4 c5 c6 f0 f1 f2 f3 f4 f5 f6 hK1 hF1 hD1 hC1 hq HZ HD H
  obtain ⟨z0, z1, z2, z3, z4, z5, z6, e0, e1, e2, e3, e4, e5, e6⟩ := blk7 hz1
  obtain ⟨c0, c1, c2, c3, c4, c5, c6, f0, f1, f2, f3, f4, f5, f6⟩ := blk7 HF1.out.flt
  have lg1 := hp_lt hz1
  have lx1 := hp_lt HF1.out.flt
  clear hz1
  refine start_ (n := 13) (S := fun w' => w'.cell? ⟨g, 5, none⟩ = some (.slice A nm cm) ∧ w'.cell? ⟨gx, 5, none⟩ = some (.slice (some ⟨mx, 0, none⟩) L.length c)) (ds := [12]) #[false, false, false, false, false, false, false, false, false, false, false, false, false] (by kernel_rfl) rfl rfl ⟨(by go_simp), (by go_simp)⟩ (fun hHeld => ?_)
  refine pure_ (i := 0) (N := some 48) (v := ?_) (a' := ?_) #[true, false, false, false, false, false, false, false, false, false, false, false, false] rfl rfl (by kernel_rfl) (fun _ _ _ h => h) (Or.inl ⟨by rfl, ?_⟩) ?_ ?_
  rotate_left
  · intro w'
    go_simp
    with_reducible rfl
  rotate_left
  · simp only [Act.put, List.setIfInBounds_toArray, List.set_cons_zero, List.set_cons_succ, i64_w, i32_w]
    rfl
  refine pure_ (i := 1) (N := some 49) (v := ?_) (a' := ?_) #[true, true, false, false, false, false, false, false, false, false, false, false, false] rfl rfl (by kernel_rfl) (fun _ _ _ h => h) (Or.inl ⟨by rfl, ?_⟩) ?_ ?_
  rotate_left
  · intro w'
    go_simp
    with_reducible rfl
  rotate_left
  · simp only [Act.put, List.setIfInBounds_toArray, List.set_cons_zero, List.set_cons_succ, i64_w, i32_w]
    rfl
  refine pure_ (i := 2) (N := some 50) (v := ?_) (a' := ?_) #[true, true, true, false, false, false, false, false, false, false, false, false, false] rfl rfl (by kernel_rfl) (fun _ _ _ h => h) (Or.inl ⟨by rfl, ?_⟩) ?_ ?_
  rotate_left
  · intro w'
    go_simp
    with_reducible rfl
  rotate_left
  · simp only [Act.put, List.setIfInBounds_toArray, List.set_cons_zero, List.set_cons_succ, i64_w, i32_w]
    rfl
  refine pure_ (i := 3) (N := some 51) (v := ?_) (a' := ?_) #[true, true, true, true, false, false, false, false, false, false, false, false, false] rfl rfl (by kernel_rfl) (fun _ _ _ h => h) (Or.inl ⟨by rfl, ?_⟩) ?_ ?_
  rotate_left
  · intro w'
    go_simp
    with_reducible rfl
  rotate_left
  · simp only [Act.put, List.setIfInBounds_toArray, List.set_cons_zero, List.set_cons_succ, i64_w, i32_w]
    rfl
  refine pure_ (i := 5) (N := some 53) (v := ?_) (a' := ?_) #[true, true, true, true, false, true, false, false, false, false, false, false, false] rfl rfl (by kernel_rfl) (fun _ _ _ h => h) (Or.inl ⟨by rfl, ?_⟩) ?_ ?_
  rotate_left
  · intro w'
    go_simp
    with_reducible rfl
  rotate_left
  · simp only [Act.put, List.setIfInBounds_toArray, List.set_cons_zero, List.set_cons_succ, i64_w, i32_w]
    rfl
  refine pure_ (i := 6) (N := some 54) (v := ?_) (a' := ?_) #[true, true, true, true, false, true, true, false, false, false, false, false, false] rfl rfl (by kernel_rfl) (fun _ _ _ h => h) (Or.inl ⟨by rfl, ?_⟩) ?_ ?_
  rotate_left
  · intro w'
    go_simp
    with_reducible rfl
  rotate_left
  · simp only [Act.put, List.setIfInBounds_toArray, List.set_cons_zero, List.set_cons_succ, i64_w, i32_w]
    rfl
  refine pure_ (i := 7) (N := some 55) (v := ?_) (a' := ?_) #[true, true, true, true, false, true, true, true, false, false, false, false, false] rfl rfl (by kernel_rfl) (fun _ _ _ h => h) (Or.inl ⟨by rfl, ?_⟩) ?_ ?_
  rotate_left
  · intro w'
    go_simp
    with_reducible rfl
  rotate_left
  · simp only [Act.put, List.setIfInBounds_toArray, List.set_cons_zero, List.set_cons_succ, i64_w, i32_w]
    rfl
  refine take_ (i := 4) (N := some 52) (v := ?_) (a' := ?_) #[true, true, true, true, true, true, true, true, false, false, false, false, false] rfl rfl (by kernel_rfl) (fun _ _ _ h => h) (Or.inl ⟨by rfl, ?_⟩) hHeld ?_ ?_
  rotate_left
  · rintro w' ⟨s0, s1⟩
    go_simp
    with_reducible rfl
  rotate_left
  · simp only [Act.put, List.setIfInBounds_toArray, List.set_cons_zero, List.set_cons_succ, i64_w, i32_w]
    rfl
  refine take_ (i := 8) (N := some 56) (v := ?_) (a' := ?_) #[true, true, true, true, true, true, true, true, true, false, false, false, false] rfl rfl (by kernel_rfl) (fun _ _ _ h => h) (Or.inl ⟨by rfl, ?_⟩) hHeld ?_ ?_
  rotate_left
  · rintro w' ⟨s0, s1⟩
    go_simp
    with_reducible rfl
  rotate_left
  · simp only [Act.put, List.setIfInBounds_toArray, List.set_cons_zero, List.set_cons_succ, i64_w, i32_w]
    rfl
  refine one_ (i := 9) (N := some 57) #[true, true, true, true, true, true, true, true, true, true, false, false, false] rfl rfl (by kernel_rfl) (by decide) (fun K hK => ?_)
  refine goes_ Tryz.func78 (by kernel_rfl) rfl #[.slice A nm cm, .slice (some ⟨mx, 0, none⟩) L.length c] (by rfl) rfl rfl (by simp only [List.map_toArray, List.map_cons, List.map_nil]; rfl) ?_
  with_reducible refine (HSET.out).mono ?_
  rintro e w2 ⟨mb, R2, cc, rfl, hcc, hmx, hmb, hm, hokR, hk2⟩
  refine ⟨_, rfl, ?_⟩
  have HCC := Aside0.mk hcc
  have HMB := Aside0.mk hmb
  have q0 := hk2.cell (p := ⟨g, 5, none⟩) hHeld.1 hSg
  have q1 := hk2.cell (p := ⟨gx, 5, none⟩) hHeld.2 hS1
  have HM2 := Aside0.mk hm
  have HO2 := Aside0.mk hokR
  have HK2 := Aside0.mk hk2
  have hz2 := hp_kept (show hp w1.drew g = _ from HZ1.out) hk2 hSg
  have HZ2 := Aside0.mk hz2
  have hx2 := hp_kept (show hp w1.drew gx = _ from HF1.out.flt) hk2 hS1
  have HX2 := Aside0.mk hx2
  have lg2 := hp_lt hz2
  have lx2 := hp_lt hx2
  have r5 : w2.frozen? ⟨g, 5, none⟩ = false := blk_frozen hz2 5
  clear hz2 hx2 hcc hmb hm hokR hk2 z0 z1 z2 z3 z4 z5 z6 e0 e1 e2 e3 e4 e5 e6 c0 c1 c2 c3 c4 c5 c6 f0 f1 f2 f3 f4 f5 f6
  refine hK.out _ _ ⟨q0, q1⟩ (fun hHeld => ?_)
  clear hK K
  refine norm_ (a' := ?_) ?_ ?_
  rotate_left
  · show Act.put _ (some 57) _ = _
    simp only [Act.put, List.setIfInBounds_toArray, List.set_cons_zero, List.set_cons_succ, i64_w, i32_w]
    rfl
  refine pure_ (i := 10) (N := some 58) (v := ?_) (a' := ?_) #[true, true, true, true, true, true, true, true, true, true, true, false, false] rfl rfl (by kernel_rfl) (fun _ _ _ h => h) (Or.inl ⟨by rfl, ?_⟩) ?_ ?_
  rotate_left
  · intro w'
    go_simp
    with_reducible rfl
  rotate_left
  · simp only [Act.put, List.setIfInBounds_toArray, List.set_cons_zero, List.set_cons_succ, i64_w, i32_w]
    rfl
  refine pure_ (i := 11) (N := some 59) (v := ?_) (a' := ?_) #[true, true, true, true, true, true, true, true, true, true, true, true, false] rfl rfl (by kernel_rfl) (fun _ _ _ h => h) (Or.inl ⟨by rfl, ?_⟩) ?_ ?_
  rotate_left
  · intro w'
    go_simp
    with_reducible rfl
  rotate_left
  · simp only [Act.put, List.setIfInBounds_toArray, List.set_cons_zero, List.set_cons_succ, i64_w, i32_w]
    rfl
  refine last_ (i := 12) (N := none) #[true, true, true, true, true, true, true, true, true, true, true, true, true] rfl rfl (by kernel_rfl) (by decide) (fun K hK => ?_)
  refine skip_ (w1 := ?_) (by rfl) rfl ?_ ?_
  rotate_left
  · go_simp
    rfl
  refine hK.out _ _ ?_
  clear hK K
  refine done_ (by kernel_rfl) ?_
  have hgm : g ≠ mb := by
    rintro rfl
    rcases HMB.out with h | h
    · exact hSg h
    · have h2 : g = w1.heap.size := h
      omega
  have hxm : gx ≠ mb := by
    rintro rfl
    rcases HMB.out with h | h
    · exact hS1 h
    · have h2 : gx = w1.heap.size := h
      omega
  obtain ⟨w3, hw3⟩ : ∃ w3, w3 = w2.setCell ⟨g, 5, none⟩ (.slice (some ⟨mb, 0, none⟩) L.length cc) := ⟨_, rfl⟩
  have hF3 : Flt w3 g mb p m acc 1 neg L.length cc a6 (L ++ R2) := by
    rw [hw3]
    have h1 := HCC.out
    rw [List.length_append] at h1
    exact ⟨by rw [hp_here _ _ _ _ _ rfl, HZ2.out]; rfl, by rw [hp_other _ _ _ _ hgm]; exact HM2.out, hgm, HO2.out, by rw [List.length_append]; omega, by omega, by rw [HCC.out]; exact hmx⟩
  have hX3 : hp w3 gx = some (.cells #[.int .u32 p, .int .u8 m, .int .i8 acc, .int .u8 1, .bool neg, .slice (some ⟨mx, 0, none⟩) L.length c, .int .i32 E] 83 (0, 0)) := by
    rw [hw3, hp_other _ _ _ _ hne]; exact HX2.out
  have hK3 : Kept (AndOn S g) w w3 := by
    rw [hw3]
    refine ((HK1.out.drew.mono (fun i _ h => Or.inl h)).trans HK2.out (fun i _ h => Or.inr h)).setCell (p := ⟨g, 5, none⟩) (.inl (.inl rfl)) _
  rw [← hw3]
  have HF3 := Aside0.mk hF3
  have HK3 := Aside0.mk hK3
  clear hw3 hK3 HM2 HK2 HF1 HK1 HSET q0 q1 hHeld lg2 r5 HX2 HZ2 HZ1
  obtain ⟨z0, z1, z2, z3, z4, z5, z6, e0, e1, e2, e3, e4, e5, e6⟩ := blk7 hF3.flt
  obtain ⟨c0, c1, c2, c3, c4, c5, c6, f0, f1, f2, f3, f4, f5, f6⟩ := blk7 hX3
  have lg3 := hp_lt hF3.flt
  have lx3 := hp_lt hX3
  clear hF3 hX3
  go_wp2_with (fail)
  go_ret
  refine ⟨rfl, HK3.out.setCell (p := ⟨g, 6, none⟩) (.inl (.inl rfl)) _, mb, R2, cc, ?_, HCC.out, HF3.out.setExp E⟩
  rcases HMB.out with h | h
  · exact .inl h
  · have h2 : mb = w1.heap.size := h
    exact .inr (by omega)
end Go.Proofs.YtfnknldbjckgoaaGreatDoor.Sp
end

/-! ## FloatA -/
section
namespace Go.Proofs.YtfnknldbjckgoaaGreatDoor.Sp
open Go.RowKit Go.Proofs.YtfnknldbjckgoaaGreatDoorW.PrintWords Go.Proofs.YtfnknldbjckgoaaGreatDoorW.PrintLast Go.Proofs.YtfnknldbjckgoaaGreatDoorW.PrintMore
set_option linter.unusedVariables false
set_option linter.unusedSimpArgs false
end Go.Proofs.YtfnknldbjckgoaaGreatDoor.Sp
end

/-! ## Real -/
section
namespace Go.Proofs.YtfnknldbjckgoaaGreatDoor.Sp
open Go.RowKit Go.Proofs.YtfnknldbjckgoaaGreatDoorW.PrintWords Go.Proofs.YtfnknldbjckgoaaGreatDoorW.PrintLast Go.Proofs.YtfnknldbjckgoaaGreatDoorW.PrintMore Go.Proofs.YtfnknldbjckgoaaGreatDoor.Dig
set_option linter.unusedVariables false
set_option linter.unusedSimpArgs false

theorem neqF_same (g : Nat) (w : World) : (binOp .neq 54 (.pointer (some ⟨g, 0, none⟩)) (.pointer (some ⟨g, 0, none⟩))).run Tryz.prog w = .ok (.bool false) w := neq_same 54 83 Tryz.underlying54 infoFloat ⟨g, 0, none⟩ w
/-! ### Copy onto itself -/
/-! ### SetMantExp -/
def SmePost (w : World) (g : Nat) (S : Nat → Prop) (p : Nat) (m : Int) (neg : Bool) (E : Int) (L : List Int) (e : Ending) (w' : World) : Prop :=
  e = .returned (.pointer (some ⟨g, 0, none⟩)) ∧ Kept (AndOn S g) w w' ∧ ∃ mb R c, (S mb ∨ w.heap.size ≤ mb) ∧ (L ++ R).length = c ∧ Flt w' g mb p m 0 1 neg L.length c E (L ++ R)
set_option maxHeartbeats 3200000 in
set_option maxRecDepth 100000 in
theorem sme_c (g gx mx p : Nat) (S : Nat → Prop) (m acc : Int) (neg : Bool) (c : Nat) (E x : Int) (L R : List Int) (w : World) (hd : FltD w g S) (h : Flt w gx mx p m acc 1 neg L.length c E (L ++ R)) (hne : g ≠ gx) (hbig : L.length ≤ 900000) (hS1 : ¬ S gx) (hS2 : ¬ S mx) (hc : Canon p L) (hp1 : 1 ≤ p ∧ p < 4294967296) (hm : 0 ≤ m ∧ m < 6) (hE : -2147483648 ≤ E ∧ E < 2147483648) (hx : -2147483648 ≤ x ∧ x < 2147483648) (hEx : -2147483648 ≤ E + x ∧ E + x < 2147483647) :
    Calls Tryz.prog 62 #[.pointer (some ⟨g, 0, none⟩), .pointer (some ⟨gx, 0, none⟩), .int .i64 x] w (SmePost w g S p m neg (E + x) L) := by
  have HCP := Aside0.mk (copy_c g gx mx p S m acc neg c E L R w hd h hne hc.pos hbig hS1 hS2)
  have hSg : ¬ S g := by obtain ⟨_, _, _, _, _, _, _, _, _, _, _, h⟩ := hd; exact h
  have lg : g < w.heap.size := by obtain ⟨_, _, _, _, _, _, _, _, _, h, _, _⟩ := hd; exact hp_lt h
  have HC := Aside0.mk hc
  have hl0 := hc.pos
  clear hd h hc
  go_enter Tryz.func62, Tryz.ntmps62
  go_wp2_with (fail)
  refine (HCP.out).mono ?_
  rintro e w1 ⟨rfl, hk1, mb, R1, c1, hmb, hlen, hF1⟩
  have hsx := setExp_c g mb p m acc 1 neg c1 E (E + x) L R1 w1 hF1 hp1 hm hEx hl0 (by omega)
  have HSX := Aside0.mk hsx
  have HK1 := Aside0.mk hk1
  have HMB := Aside0.mk hmb
  have HLN := Aside0.mk hlen
  obtain ⟨c0', c1', c2, c3, c4, c5, c6, f0, f1, f2, f3, f4, f5, f6⟩ := blk7 hF1.flt
  have lg1 := hp_lt hF1.flt
  have hw : IntKind.i64.wrap (E + x) = E + x := IntWalk.i64_in _ (by omega)
  clear hk1 hmb hlen hF1 hsx HCP
  go_wp2_with (fail)
  refine (HSX.out).mono ?_
  intro e w2 hr
  obtain ⟨rfl, hk2, R2, hlen2, hF2⟩ := round_canon hr HC.out hp1.1
  have HK2 := Aside0.mk (HK1.out.trans hk2 (fun i hi h => by
    rcases h with h | h
    · exact .inl h
    · rcases HMB.out with h2 | h2
      · exact .inr (h ▸ h2)
      · omega))
  have HF2 := Aside0.mk hF2
  have HL2 := Aside0.mk hlen2
  clear hr hk2 hlen2 hF2 HSX c0' c1' c2 c3 c4 c5 c6 f0 f1 f2 f3 f4 f5 f6
  go_wp2_with (fail)
  go_ret
  exact ⟨rfl, HK2.out, mb, R2, c1, HMB.out, by rw [HL2.out, HLN.out], HF2.out⟩
/-! ### MantExp -/
/-! ### MinPrec -/
set_option maxHeartbeats 3200000 in
set_option maxRecDepth 100000 in
theorem minPrec_c (g mb p : Nat) (m acc : Int) (neg : Bool) (c : Nat) (E : Int) (L R : List Int) (t : Nat) (w : World) (h : Flt w g mb p m acc 1 neg L.length c E (L ++ R)) (h0 : 0 < ev BW L) (ht : Tz (ev BW L) t) (hT : Tb w) (htl : t ≤ 64 * L.length) (hbig : L.length ≤ 900000) :
    Calls Tryz.prog 72 #[.pointer (some ⟨g, 0, none⟩)] w fun e w' => e = .returned (.int .u64 ((64 * L.length - t : Nat) : Int)) ∧ Kept (fun _ => False) w w' := by
  have hC := h.C
  rw [List.take_left' rfl] at hC
  have HTT := Aside0.mk (show ∀ W, Kd.C (Kd.int .u64) W (some ⟨mb, 0, none⟩) L.length L → Tb W → Calls Tryz.prog 75 #[.slice (some ⟨mb, 0, none⟩) L.length c] W fun e w' => e = .returned (.int .u64 (t : Int)) ∧ W = w' from fun W h1 h2 => tzb_c (some ⟨mb, 0, none⟩) c L t W h1 h.lec (by omega) (okd_append.1 h.ok).1 h0 ht h2)
  have HCD : Aside0 (Kd.C (Kd.int .u64) w.drew (some ⟨mb, 0, none⟩) L.length L) := ⟨⟨hC.1, hC.2.1, hC.2.2⟩⟩
  have HTD : Aside0 (Tb w.drew) := ⟨hT.kept ((Kept.refl (fun _ => False) w).drew) (fun h => h)⟩
  obtain ⟨c0, c1, c2, c3, c4, c5, c6, f0, f1, f2, f3, f4, f5, f6⟩ := blk7 h.flt
  have hw : IntKind.u64.wrap (L.length : Int) = (L.length : Int) := by rw [IntKind.wrap_u64]; omega
  have hz : (L.length : Int) * 64 - (t : Int) = ((64 * L.length - t : Nat) : Int) := by omega
  have hw2 : IntKind.u64.wrap ((L.length : Int) * 64) = (L.length : Int) * 64 := by rw [IntKind.wrap_u64]; omega
  have hw3 : IntKind.u64.wrap ((64 * L.length - t : Nat) : Int) = ((64 * L.length - t : Nat) : Int) := by rw [IntKind.wrap_u64]; omega
  clear h ht hT hC h0
  go_enter Tryz.func72, Tryz.ntmps72
  go_wp2_with (fail)
  have HT2 := Aside0.mk (show ∀ W, Kd.C (Kd.int .u64) W (some ⟨mb, 0, none⟩) L.length L → Tb W → Calls Tryz.prog 75 #[.slice (some ⟨mb, 0, none⟩) L.length c] W fun e w' => e = .returned (.int .u64 (t : Int)) ∧ W = w' from fun W h1 h2 => HTT.out W h1 h2)
  refine start_ (n := 14) (S := fun w' => w'.cell? ⟨g, 5, none⟩ = some (.slice (some ⟨mb, 0, none⟩) L.length c)) (ds := []) #[false, false, false, false, false, false, false, false, false, false, false, false, false, false] (by kernel_rfl) rfl rfl ((by go_simp)) (fun hHeld => ?_)
  refine pure_ (i := 0) (N := some 8) (v := ?_) (a' := ?_) #[true, false, false, false, false, false, false, false, false, false, false, false, false, false] rfl rfl (by kernel_rfl) (fun _ _ _ h => h) (Or.inl ⟨by rfl, ?_⟩) ?_ ?_
  rotate_left
  · intro w'
    go_simp
    with_reducible rfl
  rotate_left
  · simp only [Act.put, List.setIfInBounds_toArray, List.set_cons_zero, List.set_cons_succ, i64_w, i32_w]
    rfl
  refine pure_ (i := 1) (N := some 9) (v := ?_) (a' := ?_) #[true, true, false, false, false, false, false, false, false, false, false, false, false, false] rfl rfl (by kernel_rfl) (fun _ _ _ h => h) (Or.inl ⟨by rfl, ?_⟩) ?_ ?_
  rotate_left
  · intro w'
    go_simp
    with_reducible rfl
  rotate_left
  · simp only [Act.put, List.setIfInBounds_toArray, List.set_cons_zero, List.set_cons_succ, i64_w, i32_w]
    rfl
  refine pure_ (i := 2) (N := some 10) (v := ?_) (a' := ?_) #[true, true, true, false, false, false, false, false, false, false, false, false, false, false] rfl rfl (by kernel_rfl) (fun _ _ _ h => h) (Or.inl ⟨by rfl, ?_⟩) ?_ ?_
  rotate_left
  · intro w'
    go_simp
    with_reducible rfl
  rotate_left
  · simp only [Act.put, List.setIfInBounds_toArray, List.set_cons_zero, List.set_cons_succ, i64_w, i32_w]
    rfl
  refine pure_ (i := 7) (N := some 15) (v := ?_) (a' := ?_) #[true, true, true, false, false, false, false, true, false, false, false, false, false, false] rfl rfl (by kernel_rfl) (fun _ _ _ h => h) (Or.inl ⟨by rfl, ?_⟩) ?_ ?_
  rotate_left
  · intro w'
    go_simp
    with_reducible rfl
  rotate_left
  · simp only [Act.put, List.setIfInBounds_toArray, List.set_cons_zero, List.set_cons_succ, i64_w, i32_w]
    rfl
  refine pure_ (i := 8) (N := some 16) (v := ?_) (a' := ?_) #[true, true, true, false, false, false, false, true, true, false, false, false, false, false] rfl rfl (by kernel_rfl) (fun _ _ _ h => h) (Or.inl ⟨by rfl, ?_⟩) ?_ ?_
  rotate_left
  · intro w'
    go_simp
    with_reducible rfl
  rotate_left
  · simp only [Act.put, List.setIfInBounds_toArray, List.set_cons_zero, List.set_cons_succ, i64_w, i32_w]
    rfl
  refine pure_ (i := 9) (N := some 17) (v := ?_) (a' := ?_) #[true, true, true, false, false, false, false, true, true, true, false, false, false, false] rfl rfl (by kernel_rfl) (fun _ _ _ h => h) (Or.inl ⟨by rfl, ?_⟩) ?_ ?_
  rotate_left
  · intro w'
    go_simp
    with_reducible rfl
  rotate_left
  · simp only [Act.put, List.setIfInBounds_toArray, List.set_cons_zero, List.set_cons_succ, i64_w, i32_w]
    rfl
  refine take_ (i := 3) (N := some 11) (v := ?_) (a' := ?_) #[true, true, true, true, false, false, false, true, true, true, false, false, false, false] rfl rfl (by kernel_rfl) (fun _ _ _ h => h) (Or.inl ⟨by rfl, ?_⟩) hHeld ?_ ?_
  rotate_left
  · intro w' s0
    go_simp
    with_reducible rfl
  rotate_left
  · simp only [Act.put, List.setIfInBounds_toArray, List.set_cons_zero, List.set_cons_succ, i64_w, i32_w]
    rfl
  refine pure_ (i := 4) (N := some 12) (v := ?_) (a' := ?_) #[true, true, true, true, true, false, false, true, true, true, false, false, false, false] rfl rfl (by kernel_rfl) (fun _ _ _ h => h) (Or.inl ⟨by rfl, ?_⟩) ?_ ?_
  rotate_left
  · intro w'
    go_simp
    with_reducible rfl
  rotate_left
  · simp only [Act.put, List.setIfInBounds_toArray, List.set_cons_zero, List.set_cons_succ, i64_w, i32_w]
    rfl
  refine pure_ (i := 5) (N := some 13) (v := ?_) (a' := ?_) #[true, true, true, true, true, true, false, true, true, true, false, false, false, false] rfl rfl (by kernel_rfl) (fun _ _ _ h => h) (Or.inl ⟨by rfl, ?_⟩) ?_ ?_
  rotate_left
  · intro w'
    go_simp
    with_reducible rfl
  rotate_left
  · simp only [Act.put, List.setIfInBounds_toArray, List.set_cons_zero, List.set_cons_succ, i64_w, i32_w]
    rfl
  refine pure_ (i := 6) (N := some 14) (v := ?_) (a' := ?_) #[true, true, true, true, true, true, true, true, true, true, false, false, false, false] rfl rfl (by kernel_rfl) (fun _ _ _ h => h) (Or.inl ⟨by rfl, ?_⟩) ?_ ?_
  rotate_left
  · intro w'
    go_simp
    with_reducible rfl
  rotate_left
  · simp only [Act.put, List.setIfInBounds_toArray, List.set_cons_zero, List.set_cons_succ, i64_w, i32_w]
    rfl
  refine take_ (i := 10) (N := some 18) (v := ?_) (a' := ?_) #[true, true, true, true, true, true, true, true, true, true, true, false, false, false] rfl rfl (by kernel_rfl) (fun _ _ _ h => h) (Or.inl ⟨by rfl, ?_⟩) hHeld ?_ ?_
  rotate_left
  · intro w' s0
    go_simp
    with_reducible rfl
  rotate_left
  · simp only [Act.put, List.setIfInBounds_toArray, List.set_cons_zero, List.set_cons_succ, i64_w, i32_w]
    rfl
  refine one_ (i := 11) (N := some 19) #[true, true, true, true, true, true, true, true, true, true, true, true, false, false] rfl rfl (by kernel_rfl) (by decide) (fun K hK => ?_)
  refine goes_ Tryz.func75 (by kernel_rfl) rfl #[.slice (some ⟨mb, 0, none⟩) L.length c] (by rfl) rfl rfl (by simp only [List.map_toArray, List.map_cons, List.map_nil]; rfl) ?_
  with_reducible refine (HT2.out w.drew HCD.out HTD.out).mono ?_
  rintro e w1 ⟨rfl, rfl⟩
  refine ⟨_, rfl, ?_⟩
  have q0 := hHeld
  refine hK.out _ _ (q0) (fun hHeld => ?_)
  clear hK K
  refine norm_ (a' := ?_) ?_ ?_
  rotate_left
  · show Act.put _ (some 19) _ = _
    simp only [Act.put, List.setIfInBounds_toArray, List.set_cons_zero, List.set_cons_succ, i64_w, i32_w]
    rfl
  refine pure_ (i := 12) (N := some 20) (v := ?_) (a' := ?_) #[true, true, true, true, true, true, true, true, true, true, true, true, true, false] rfl rfl (by kernel_rfl) (fun _ _ _ h => h) (Or.inl ⟨by rfl, ?_⟩) ?_ ?_
  rotate_left
  · intro w'
    go_simp
    with_reducible rfl
  rotate_left
  · simp only [Act.put, List.setIfInBounds_toArray, List.set_cons_zero, List.set_cons_succ, i64_w, i32_w]
    rfl
  refine pure_ (i := 13) (N := some 2) (v := ?_) (a' := ?_) #[true, true, true, true, true, true, true, true, true, true, true, true, true, true] rfl rfl (by kernel_rfl) (fun _ _ _ h => h) (Or.inl ⟨by rfl, ?_⟩) ?_ ?_
  rotate_left
  · intro w'
    go_simp
    with_reducible rfl
  rotate_left
  · simp only [Act.put, List.setIfInBounds_toArray, List.set_cons_zero, List.set_cons_succ, i64_w, i32_w]
    rfl
  refine done_ (by kernel_rfl) ?_
  go_wp2_with (fail)
  go_ret
  exact ⟨ret_i rfl, (Kept.refl (fun _ => False) w).drew⟩

/-! ### rsh onto nil -/
def WdPost (w : World) (v : Int) (e : Ending) (w' : World) : Prop := ∃ A m c, e = .returned (.slice A m c) ∧ Wd w' (.slice A m c) v ∧ Below w.heap.size w w'
set_option maxHeartbeats 3200000 in
set_option maxRecDepth 100000 in
theorem rsh_nil_c (mx c t : Nat) (L : List Int) (w : World) (hC : Kd.C (Kd.int .u64) w (some ⟨mx, 0, none⟩) L.length L) (hlc : L.length ≤ c) (hok : okd BW L) (h0 : 0 < t) (ht : t < 64 * L.length) (hbig : L.length ≤ 900000) (hmx : mx < w.heap.size) :
    Calls Tryz.prog 68 #[.slice none 0 0, .slice (some ⟨mx, 0, none⟩) L.length c, .int .u64 (t : Int)] w (WdPost w (ev BW L / 2 ^ t)) := by
  obtain ⟨k, hk⟩ : ∃ k : Nat, k = t / 64 := ⟨_, rfl⟩
  obtain ⟨s, hs⟩ : ∃ s : Nat, s = t % 64 := ⟨_, rfl⟩
  have ht2 : t = 64 * k + s := by omega
  have hs64 : s < 64 := by omega
  obtain ⟨n, hn⟩ : ∃ n : Nat, n = L.length - k := ⟨_, rfl⟩
  have hn0 : 0 < n := by omega
  have hkn : k + n = L.length := by omega
  have htI : ((t : Int) == 0) = false := by rw [beq_eq_false_iff_ne]; omega
  have hq : (t : Int) / 64 = (k : Int) := by omega
  have hm : (t : Int) % 64 = (s : Int) := by omega
  have hkw : IntKind.i64.wrap (k : Int) = (k : Int) := IntWalk.i64_in _ (by omega)
  have hmn : (L.length : Int) - (k : Int) = (n : Int) := by omega
  have hmk : (L.length : Int) - (n : Int) = (k : Int) := by omega
  have hld : (L.drop k).length = n := by rw [List.length_drop]; omega
  have hokd := okd_drop hok k
  have hcs := C_sub hC k n (by omega)
  rw [List.take_of_length_le (by omega), add_spot, Nat.zero_add] at hcs
  have hnd : decide ((n : Int) ≤ 0) = false := decide_eq_false (by omega)
  have hck : ¬ c = k := by omega
  obtain ⟨X, hX⟩ : ∃ X, X = L.drop k := ⟨_, rfl⟩
  have hv : ev BW (L.drop k) / 2 ^ s = ev BW L / 2 ^ t := by rw [ev_div hok BW_pos k (by omega), shift_all, ← ht2]
  rw [← hX] at hld hokd hcs hv
  have HMK := Aside0.mk (make_c (.slice none 0 0) (fun _ => False) n w (.inl rfl) (by omega) (by omega))
  have HCS := Aside0.mk hcs
  have HOK := Aside0.mk hokd
  have HLD := Aside0.mk hld
  have HV := Aside0.mk hv
  have hkl : k ≤ L.length := by omega
  have hln : L.length - k = n := by omega
  have hnb : n ≤ 900000 := by omega
  obtain ⟨v, hvv⟩ : ∃ v, v = ev BW L / 2 ^ t := ⟨_, rfl⟩
  rw [← hvv] at HV ⊢
  clear hk hs ht2 hn hkn hC hok hcs hokd hld hv hvv ht h0 hX
  by_cases hs0 : s = 0
  · subst hs0
    go_enter Tryz.func68, Tryz.ntmps68
    go_wp2_with (fail)
    refine (HMK.out).mono ?_
    rintro e w1 ⟨mb, Z, rfl, hnZ, hmax, hmb, hmz, hokZ, hk1⟩
    have hmb2 : mb = w.heap.size := by rcases hmb with h | h; exact h.elim; exact h
    subst hmb2
    have HB1 := Aside0.mk (hk1.below (B := w.heap.size) (fun i h => h.elim) (Nat.le_refl _))
    have HC1 := Aside0.mk (C_kept hk1 HCS.out (fun _ h => h))
    have HMZ := Aside0.mk hmz
    have HOZ := Aside0.mk hokZ
    have hn1 : (X.map (Value.int .u64)).length = Nat.min n n := by rw [List.length_map, HLD.out]; exact (Nat.min_self n).symm
    have hn3 : 0 + (X.map (Value.int .u64)).length ≤ (Z.map (Value.int .u64)).length := by simp only [List.length_map]; rw [HLD.out]; omega
    have hn2 : ∀ (j : Nat) (a : Int), X[j]? = some a → w1.cell? ⟨mx, k + j, none⟩ = some (.int .u64 a) := fun j a hj => by
      have := copy_src HC1.out j (.int .u64 a) (by rw [List.getElem?_map, hj]; rfl)
      rwa [add_spot] at this
    have HN1 := Aside0.mk hn1
    have HN2 := Aside0.mk hn2
    have HN3 := Aside0.mk hn3
    clear hk1 hmz hokZ hn1 hn3 hmb hn2
    go_wp2_with (with_reducible refine wpList_copy_kept rfl _ _ 81 81 rfl 108 Tryz.underlying81 ?k1 (some ⟨w.heap.size, 0, none⟩) (some ⟨mx, k, none⟩) n Z.length n (c - k) rfl rfl w.heap.size 0 (Z.map (Value.int .u64)) 108 ?k2 (X.map (Value.int .u64)) ?k3 ?k4 ?k5 ?k6 ?k7)
    case k1 => kernel_rfl
    case k2 => exact HMZ.out
    case k3 => exact HN1.out
    case k4 => first | exact HN2.out | exact fun _ => HN2.out | fail
    case k5 => exact HN3.out
    case k6 => exact fun v hv => copy_one v hv
    case k7 =>
      intro w2 hw2 hk2
      have hC2 : Kd.C (Kd.int .u64) w2 (some ⟨w.heap.size, 0, none⟩) X.length X := by
        have h1 : hp w2 w.heap.size = some (.cells (u64s (X ++ Z.drop n)) 108 (0, 0)) := by
          refine (show hp w2 w.heap.size = _ from hw2.out).trans ?_
          rw [laid_u64]
          unfold laid
          rw [List.take_zero, List.nil_append, Nat.zero_add, HLD.out]
        refine blk_C _ h1 0 (by rw [HLD.out]; omega) (fun i hi => ?_)
        rw [Nat.zero_add, u64s_get _ i (by rw [List.length_append]; omega)]
        simp only [List.getD_eq_getElem?_getD]
        rw [List.getElem?_append_left hi]
      have HC2 := Aside0.mk hC2
      have HWD := Aside0.mk (strip_wd hC2 (c := Z.length) (by rw [HLD.out]; exact hnZ) HOK.out)
      have HB2 := Aside0.mk (HB1.out.trans (hk2.out.below (B := w.heap.size) (fun i h => by have : i = w.heap.size := h; omega) HB1.out.size))
      clear hw2 hk2 hC2 HC1
      go_wp2_with (fail)
      refine (norm_w _ Z.length X n _ HC2.out HLD.out hnZ (by omega)).mono ?_
      rintro e w3 ⟨rfl, rfl⟩
      go_wp2_with (fail)
      go_ret
      have hv := HV.out
      rw [Int.pow_zero, Int.ediv_one] at hv
      exact ⟨_, _, _, rfl, by rw [← hv]; exact HWD.out, HB2.out⟩
  · have hs1 : 0 < s := by omega
    have hsI : ((s : Int) == 0) = false := by rw [beq_eq_false_iff_ne]; omega
    go_enter Tryz.func68, Tryz.ntmps68
    go_wp2_with (fail)
    refine (HMK.out).mono ?_
    rintro e w1 ⟨mb, Z, rfl, hnZ, hmax, hmb, hmz, hokZ, hk1⟩
    have hmb2 : mb = w.heap.size := by rcases hmb with h | h; exact h.elim; exact h
    subst hmb2
    have HB1 := Aside0.mk (hk1.below (B := w.heap.size) (fun i h => h.elim) (Nat.le_refl _))
    have hC1 := C_kept hk1 HCS.out (fun _ h => h)
    have hsh := rshVU_c w.heap.size 0 Z.length mx k (c - k) Z X s 108 w1 ⟨hs1, hs64⟩ hmz (by rw [HLD.out]; omega) ⟨fun j hj => by
      have := C_at hC1 j hj
      rwa [add_spot] at this, .inl (by omega)⟩ (by rw [HLD.out]; exact hn0) (by rw [HLD.out]; omega) HOK.out
    rw [HV.out, HLD.out] at hsh
    have HSH := Aside0.mk hsh
    have HOZ := Aside0.mk hokZ
    have HMZ := Aside0.mk hmz
    clear hk1 hmz hokZ hmb hsh hC1 hs0
    go_wp2_with (go_at_call 97; refine (HSH.out).mono ?_; rintro e w' ⟨rfl, h1, h2⟩; have H1 := Aside0.mk h1; have H2 := Aside0.mk h2; clear h1 h2)
    obtain ⟨w2, hw2⟩ : ∃ w2, w2 = w' := ⟨_, rfl⟩
    rw [← hw2] at H1 H2 ⊢
    clear hw2
    have hu := upd_all [] (Z.take n) (Z.drop n) v
    have htn : (Z.take n).length = n := by rw [List.length_take]; omega
    rw [htn, List.nil_append, List.take_append_drop, List.nil_append] at hu
    have h1 := H1.out
    rw [show upd Z 0 0 n v = upd Z ([] : List Int).length 0 n v from rfl, hu] at h1
    have hvr : 0 ≤ v ∧ v < BW ^ n := by
      have h3 := ev_nonneg HOK.out BW_pos
      have h4 := ev_lt HOK.out BW_pos
      rw [HLD.out] at h4
      have h5 := Int.ediv_nonneg h3 (Int.le_of_lt (tp s))
      have h6 := Int.ediv_le_self (2 ^ s) h3
      rw [HV.out] at h5 h6
      omega
    have hC2 : Kd.C (Kd.int .u64) w2 (some ⟨w.heap.size, 0, none⟩) (wn n v).length (wn n v) := by
      refine blk_C _ h1 0 (by rw [wn_len]; omega) (fun i hi => ?_)
      rw [Nat.zero_add, u64s_get _ i (by rw [List.length_append]; omega)]
      simp only [List.getD_eq_getElem?_getD]
      rw [List.getElem?_append_left hi]
    have HC2 := Aside0.mk hC2
    have hwd := strip_wd hC2 (c := Z.length) (by rw [wn_len]; exact hnZ) (wn_ok _ _)
    rw [ev_wn_lt _ _ hvr.1 hvr.2] at hwd
    have HWD := Aside0.mk hwd
    have HB2 := Aside0.mk (HB1.out.trans (H2.out.below (B := w.heap.size) (fun i h => by have : i = w.heap.size := h; omega) HB1.out.size))
    clear H1 H2 hu htn h1 hvr hC2 hwd
    refine (norm_w _ Z.length (wn n v) n _ HC2.out (wn_len _ _) hnZ (by omega)).mono ?_
    rintro e w3 ⟨rfl, rfl⟩
    go_wp2_with (fail)
    go_ret
    exact ⟨_, _, _, rfl, HWD.out, HB2.out⟩

/-! ### Float.Int of a whole value, into a new Int -/
theorem Canon.cn {p : Nat} {L : List Int} (h : Canon p L) : Cn BW L := ⟨h.ok, fun d hd => by
  have h1 := h.top
  unfold Top at h1
  rw [List.getLast?_eq_getElem?] at hd
  rw [List.getD_eq_getElem?_getD, hd] at h1
  have h2 : 9223372036854775808 ≤ d := h1
  omega⟩
end Go.Proofs.YtfnknldbjckgoaaGreatDoor.Sp
end

/-! ## Real2 -/
section
namespace Go.Proofs.YtfnknldbjckgoaaGreatDoor.Sp
open Go.RowKit Go.Proofs.YtfnknldbjckgoaaGreatDoorW.PrintWords Go.Proofs.YtfnknldbjckgoaaGreatDoorW.PrintLast Go.Proofs.YtfnknldbjckgoaaGreatDoorW.PrintMore Go.Proofs.YtfnknldbjckgoaaGreatDoor.Dig
set_option linter.unusedVariables false
set_option linter.unusedSimpArgs false

/-- Words in a block of the call's own (from block B on). -/
def Wf (w : World) (B : Nat) (v : Value) (n : Int) : Prop := ∃ l, Kd.V (Kd.int .u64) 22 w B (fun k => B ≤ k) v l ∧ Cn BW l ∧ ev BW l = n
theorem Wf.wd {w : World} {B : Nat} {A : Option Addr} {m c : Nat} {n : Int} (h : Wf w B (.slice A m c) n) : Wd w (.slice A m c) n := by
  obtain ⟨l, h1, h2, h3⟩ := h
  obtain ⟨rfl, h5, h6⟩ := Kd.V_reads' h1
  exact ⟨A, c, l, rfl, h5, h6, h2, h3⟩
theorem Wf.far {w : World} {B : Nat} {v : Value} {n : Int} (h : Wf w B v n) {p : Addr} (hp : p.block < B) (u : Value) : Wf (w.setCell p u) B v n := by
  obtain ⟨l, h1, h2⟩ := h
  exact ⟨l, Kd.V_far h1 (fun k hk => by omega) u, h2⟩
theorem Wf.below {w w1 : World} {B : Nat} {v : Value} {n : Int} (h : Wf w B v n) (hb : Below w.heap.size w w1) : Wf w1 B v n := by
  obtain ⟨l, h1, h2⟩ := h
  exact ⟨l, Kd.V_below h1 hb, h2⟩
theorem Wf.mono {w : World} {B B' : Nat} {v : Value} {n : Int} (h : Wf w B v n) (hb : B' ≤ B) : Wf w B' v n := by
  obtain ⟨l, h1, h2⟩ := h
  exact ⟨l, Kd.V_mono (Kd.V_lower h1 hb) (fun k hk => Nat.le_trans hb hk), h2⟩
theorem Wf.nil (w : World) (B : Nat) : Wf w B (.slice none 0 0) 0 := ⟨[], Kd.V_nil _ _ _ _ _, Cn_nil _, ev_nil _⟩
theorem FltD.new {w : World} {g : Nat} (h : hp w g = some (.cells #[.int .u32 0, .int .u8 0, .int .i8 0, .int .u8 0, .bool false, .slice none 0 0, .int .i32 0] 83 (0, 0))) : FltD w g (fun _ => False) := ⟨0, 0, 0, 0, false, none, 0, 0, 0, h, .inl rfl, fun h => h⟩
theorem Canon.le {p : Nat} {L : List Int} (h : Canon p L) {q : Nat} (hq : p ≤ q) : L.length ≤ (q + 63) / 64 := by have := h.len; omega
end Go.Proofs.YtfnknldbjckgoaaGreatDoor.Sp
end
