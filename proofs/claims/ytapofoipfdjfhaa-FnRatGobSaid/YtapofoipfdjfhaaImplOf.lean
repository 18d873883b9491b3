/-
  CONTRACT of the thin package's 'of': a new Int of a number.
-/
import Derived.Test.YtapofoipfdjfhaaRatImpl
import Derived.Test.YtapofoipfdjfhaaWLast
namespace Go.Proofs.Ytapofoipfdjfhaa.Sp
open Go.RowKit Go.Proofs.YtapofoipfdjfhaaW.PrintWords Go.Proofs.YtapofoipfdjfhaaW.PrintLast Go.Proofs.YtapofoipfdjfhaaW.PrintMore Go.Proofs.Ytapofoipfdjfhaa.Dig
set_option linter.unusedVariables false
set_option linter.unusedSimpArgs false

/-! ### of -/
/-- An Int in memory (its own block): sign, words. -/
def IntB (w : World) (g : Nat) (neg : Bool) (n : Int) : Prop := ∃ v, hp w g = some (.cells #[.bool neg, v] 59 (0, 0)) ∧ Wd w v n
theorem IntB.below {w w1 : World} {g : Nat} {neg : Bool} {n : Int} (h : IntB w g neg n) (hb : Below w.heap.size w w1) : IntB w1 g neg n := by
  obtain ⟨v, h1, h2⟩ := h
  exact ⟨v, hp_below h1 hb, h2.below hb⟩
theorem C_take {w : World} {k : IntKind} {A : Option Addr} {l : List Int} (h : Kd.C (Kd.int k) w A l.length l) (m : Nat) (hm : m ≤ l.length) : Kd.C (Kd.int k) w A (l.take m).length (l.take m) := by
  obtain ⟨h1, h2, h3⟩ := h
  have hl : (l.take m).length = m := by rw [List.length_take, Nat.min_eq_left hm]
  refine ⟨rfl, by omega, fun h0 => ?_⟩
  obtain ⟨ad, e, hc⟩ := h3 (by omega)
  refine ⟨ad, e, fun j p hj => hc j p ?_⟩
  rw [List.getElem?_take] at hj
  split at hj
  · exact hj
  · cases hj
theorem strip_wd {w : World} {A : Option Addr} {c : Nat} {l : List Int} (h : Kd.C (Kd.int .u64) w A l.length l) (hlc : l.length ≤ c) (hok : okd BW l) : Wd w (.slice A (strip l).length c) (ev BW l) := by
  obtain ⟨s1, s2, k, s3, s4⟩ := strip_cn l hok
  refine ⟨A, c, strip l, rfl, ?_, ?_, s1, s2⟩
  · rw [s4, List.length_take]; omega
  · rw [s4]; exact C_take h k s3
set_option maxHeartbeats 3200000 in
set_option maxRecDepth 100000 in
theorem of_impl_c (neg : Bool) (A : Option Addr) (m c : Nat) (l : List Int) (w : World) (h : Ws w (.slice A m c) l) (hl : l.length ≤ 1000000) :
    Calls Try.prog 30 #[.agg #[.bool neg, .slice A m c]] w fun e w' => ∃ g, e = .returned (.pointer (some ⟨g, 0, none⟩)) ∧ w.heap.size ≤ g ∧ IntB w' g (neg && decide (0 < ev BW l)) (ev BW l) ∧ Below w.heap.size w w' := by
  obtain ⟨A', c', e, h2, h3, h4⟩ := h
  injection e with e1 e2 e3
  subst e1 e2 e3
  have hu := Try.underlying24
  have hb : Below w.heap.size w (w.alloc (.cells #[.bool neg, .slice A l.length c] 24)) := below_alloc (Below.refl _ _) _
  have HR := Aside0.mk (Kd.C_below h3 hb)
  have HO4 := Aside0.mk h4
  have HLL := Aside0.mk hl
  have HB0 := Aside0.mk hb
  clear h3 h4 hb
  go_enter Try.func30, Try.ntmps30
  go_wp2_with (fail)
  go_loopw [3, 10] (fun v3 v10 wr => ∃ i : Int, 0 ≤ i ∧ i ≤ l.length ∧ v10 = .int .i64 i ∧ Aside0 (Kd.R (Kd.int .u64) 85 wr (w.heap.size + 1) (fun k => w.heap.size + 1 ≤ k) v3 (l.take i.toNat)) ∧ Aside0 (Below (w.heap.size + 1) (w.alloc (.cells #[.bool neg, .slice A l.length c] 24)) wr)) (fun _ i _ => l.length - (intOf i).toNat)
  case atStart => exact ⟨0, by omega, by omega, rfl, ⟨by simpa using Kd.R_nil _ _ _ _ _⟩, ⟨Below.refl _ _⟩⟩
  case round =>
    obtain ⟨i, i0, i1, rfl, HO, HB⟩ := hrel
    by_cases hlt : i < l.length
    · obtain ⟨ad, e, hx⟩ := Kd.at_int HR.out i i0 hlt
      cases e
      replace hx := (HB.out.cell (p := ad.add i.toNat) (by have := World.block_lt_of_cell? _ _ hx; simpa using this)).trans hx
      have hs : Aside0 (l.take (i + 1).toNat = l.take i.toNat ++ [rd l i]) := by
        constructor
        rw [show (i + 1).toNat = i.toNat + 1 by omega, List.take_succ_eq_append_getElem (by omega)]
        simp [rd, List.getD, List.getElem?_eq_getElem (show i.toNat < l.length by omega)]
      have hlen : (l.take i.toNat).length ≤ 1000000000000 := by have := HLL.out; rw [List.length_take]; omega
      have HL := Aside0.mk hlen
      have hsz : w.heap.size + 1 ≤ wr.heap.size := by have := HB.out.size; simpa using this
      have HSZ := Aside0.mk hsz
      clear hlen hsz
      go_wp2_with (first | ((with_reducible refine gate_builtin (b := .append) (xs := #[.tmp 14, .tmp 16]) rfl ?_); at_builtin; go_must (refine Kd.R_append (Kd.int .u64) (w0 := w.alloc (.cells #[.bool neg, .slice (some ad) l.length c] 24)) (w.heap.size + 1) rfl (.tmp 14) (.tmp 16) 56 85 (.int .u64 0) 8 rfl Try.underlying56 infoWord rfl (by decide) (by omega) u3 (l.take i.toNat) (rd l i) [.int .u64 (rd l i)] (fun k_ => (w.heap.size + 1 ≤ k_)) (fun _ => False) rfl rfl ?aP (fun _ hk => hk.elim) ?aF ?aO ?aB ?aS ?aL ?_; (case aP => exact rfl); (case aB => first | exact HB.out | exact (Below.alloc HB.out HSZ.out _) | fail); (case aF => exact (fun k_ hk => (Nat.le_trans HSZ.out (by first | omega | (simp at hk; omega) | fail)))); (case aO => first | exact HO.out | exact (Kd.R_alloc HO.out _) | fail); (case aS => first | exact HSZ.out | (have := HSZ.out; simp; omega) | fail); (case aL => have := HL.out; omega); intro v1 w1 ho hb hg hat; rw [← hs.out] at ho; have n0_ := Aside0.mk (hb); have n1_ := Aside0.mk (ho); clear HB; clear HO; have HB := n0_; have HO := n1_; clear n0_ n1_; clear ho hb hg hat)))
      go_roundw
      case rel => first | exact ⟨i + 1, by omega, by omega, rfl, ⟨HO.out⟩, ⟨HB.out⟩⟩ | ((repeat apply Exists.intro); exact ⟨⟨i + 1, by omega, by omega, rfl, ⟨HO.out⟩, ⟨HB.out⟩⟩, rfl⟩) | fail
      case measure => simp [intOf]; omega
    · have hi : i.toNat = l.length := by omega
      have ho := HO.out
      rw [hi, List.take_length] at ho
      obtain ⟨A3, c3, e3, q3, r3⟩ := Kd.R_reads ho
      subst e3
      have hx0 := HB.out.cell (p := ⟨w.heap.size, 0, none⟩) (by simp)
      have hx1 := hx0.trans (show _ = some (.bool neg) from by go_simp)
      have HSZ := Aside0.mk (show w.heap.size + 1 ≤ wr.heap.size by have := HB.out.size; simpa using this)
      have HBw : Aside0 (Below w.heap.size w wr) := ⟨HB0.out.trans (HB.out.mono (by omega))⟩
      have HR3 := Aside0.mk r3
      have HLC := Aside0.mk q3
      have HS := Aside0.mk (show Wd wr (.slice A3 (strip l).length c3) (ev BW l) from strip_wd r3 q3 HO4.out)
      clear hx0 HO ho r3 q3 HB0 HB HR
      go_wp2_with ((fail_if_success go_at_call 64); go_in)
      refine (norm_c A3 c3 l _ (Kd.C_below HR3.out (below_alloc (Below.refl _ _) _)) HLC.out (by have := HLL.out; omega)).mono ?_
      rintro e w1 ⟨rfl, rfl⟩
      have hsz : w.heap.size < wr.heap.size := HSZ.out
      have hpos : decide (0 < (strip l).length) = decide (0 < ev BW l) := by
        obtain ⟨s1, s2, _⟩ := strip_cn l HO4.out
        rw [← s2]
        by_cases h0 : strip l = []
        · rw [h0, ev_nil]; rfl
        · rw [decide_eq_true (List.length_pos_iff.2 h0), decide_eq_true (Cn_pos s1 BW_pos h0)]
      have HPOS := Aside0.mk hpos
      obtain ⟨n, hn⟩ : ∃ n, n = (strip l).length := ⟨_, rfl⟩
      rw [← hn] at HS HPOS ⊢
      clear hpos hn HR3 HLC HO4
      cases neg with
      | false =>
        go_wp2_with ((fail_if_success go_at_call 64); go_in)
        go_ret
        exact ⟨_, rfl, by omega, ⟨_, (by simp (disch := first | omega | (simp; omega) | (simp; done) | fail) [hp_new, hp_old, hp_here, hp_other, setObj_cells, hp_drew, hp_drewN]), HS.out.below (below_alloc (Below.refl _ _) _)⟩, below_step HBw.out (below_alloc (Below.refl _ _) _)⟩
      | true =>
        have hq := neq_same 63 59 Try.underlying63 infoInt
        by_cases h0 : 0 < n
        · have h1 : decide (0 < n) = true := decide_eq_true h0
          have HPP := Aside0.mk (HPOS.out.symm.trans h1)
          go_wp2_with ((fail_if_success go_at_call 64); go_in)
          go_ret
          exact ⟨_, rfl, by omega, ⟨_, by rw [HPP.out]; exact (by simp (disch := first | omega | (simp; omega) | (simp; done) | fail) [hp_new, hp_old, hp_here, hp_other, setObj_cells, hp_drew, hp_drewN]), HS.out.below (below_alloc (Below.refl _ _) _)⟩, below_step HBw.out (below_alloc (Below.refl _ _) _)⟩
        · have h1 : decide (0 < n) = false := decide_eq_false h0
          have HPP := Aside0.mk (HPOS.out.symm.trans h1)
          go_wp2_with ((fail_if_success go_at_call 64); go_in)
          go_ret
          exact ⟨_, rfl, by omega, ⟨_, by rw [HPP.out]; exact (by simp (disch := first | omega | (simp; omega) | (simp; done) | fail) [hp_new, hp_old, hp_here, hp_other, setObj_cells, hp_drew, hp_drewN]), HS.out.below (below_alloc (Below.refl _ _) _)⟩, below_step HBw.out (below_alloc (Below.refl _ _) _)⟩

/-! ### Int.Set, Rat.SetInt -/
theorem set_nil_wd (v : Value) (n : Int) (w : World) (h : Wd w v n) (hn : n < Lim) :
    Calls Try.prog 63 #[.slice none 0 0, v] w fun e w' => ∃ A m c, e = .returned (.slice A m c) ∧ Wd w' (.slice A m c) n ∧ Below w.heap.size w w' := by
  obtain ⟨A, c, l, e, h2, h3, h4, h5⟩ := h
  have := Lim_lenW h4 (by rw [h5]; exact hn)
  refine (set_nil v l w ⟨A, c, e, h2, h3, h4.ok⟩ (by omega)).mono ?_
  rintro e' w' ⟨u, rfl, hb, hu⟩
  rcases hu with ⟨rfl, rfl⟩ | ⟨_, m, hm, he⟩
  · rw [ev_nil] at h5
    subst h5
    exact ⟨none, 0, 0, rfl, Wd.nil _, hb⟩
  · have h6 := hm.wd (by rw [he]; exact h4)
    rw [he, h5] at h6
    rw [hm.val] at h6 ⊢
    exact ⟨_, _, _, rfl, h6, hb⟩
/-- What 'Set' leaves: z's two cells hold the sign and a slice of its own. -/
def SetPost (w : World) (bz oz : Nat) (nx : Bool) (n : Int) (e : Ending) (w' : World) : Prop :=
  ∃ A m c w1, e = .returned (.pointer (some ⟨bz, oz, none⟩)) ∧ w' = (w1.setCell ⟨bz, oz + 1, none⟩ (.slice A m c)).setCell ⟨bz, oz, none⟩ (.bool nx) ∧ Wd w1 (.slice A m c) n ∧ Below w.heap.size w w1
set_option maxHeartbeats 1600000 in
set_option maxRecDepth 100000 in
theorem int_set_c (bz oz bx : Nat) (cz : Array Value) (tz : TypeId) (b0 nx : Bool) (vx : Value) (n : Int) (w : World) (hz : hp w bz = some (.cells cz tz (0, 0))) (hx : hp w bx = some (.cells #[.bool nx, vx] 59 (0, 0))) (hne : bz ≠ bx) (hz0 : cz[oz]? = some (.bool b0)) (hz1 : cz[oz + 1]? = some (.slice none 0 0)) (h : Wd w vx n) (hn : n < Lim) :
    Calls Try.prog 45 #[.pointer (some ⟨bz, oz, none⟩), .pointer (some ⟨bx, 0, none⟩)] w (SetPost w bz oz nx n) := by
  have hq := neq_other 63 59 Try.underlying63 infoInt (by decide) (a := ⟨bz, oz, none⟩) (b := ⟨bx, 0, none⟩) (w := w) (by simp [hne]) hz hx
  obtain ⟨A, c, l, e, h2, h3, h4, h5⟩ := h
  subst e
  have HX := Aside0.mk (show Wd w (.slice A l.length c) n from ⟨A, c, l, rfl, h2, h3, h4, h5⟩)
  have HL := Aside0.mk hn
  obtain ⟨x0, x1, _, _⟩ := blk2 hx
  have z0 : w.cell? ⟨bz, oz, none⟩ = some (.bool b0) := (blk_cell hz oz).trans hz0
  have z1 : w.cell? ⟨bz, oz + 1, none⟩ = some (.slice none 0 0) := (blk_cell hz (oz + 1)).trans hz1
  have lz := hp_lt hz
  have lx := hp_lt hx
  have fz0 : w.frozen? ⟨bz, oz, none⟩ = false := blk_frozen hz oz
  have fz1 : w.frozen? ⟨bz, oz + 1, none⟩ = false := blk_frozen hz (oz + 1)
  have hne' : bx ≠ bz := fun e => hne e.symm
  clear h2 h3 h4 h5 hz hx hn hz0 hz1
  go_enter Try.func45, Try.ntmps45
  go_wp2_with (fail)
  refine start_ (n := 13) (S := fun w' => w'.cell? ⟨bz, oz + 1, none⟩ = some (.slice none 0 0) ∧ w'.cell? ⟨bx, 1, none⟩ = some (.slice A l.length c)) (ds := [12]) #[false, false, false, false, false, false, false, false, false, false, false, false, false] (by kernel_rfl) rfl rfl ⟨(by go_simp), (by go_simp)⟩ (fun hHeld => ?_)
  refine pure_ (i := 0) (N := some 8) (v := ?_) (a' := ?_) #[true, false, false, false, false, false, false, false, false, false, false, false, false] rfl rfl (by kernel_rfl) (fun _ _ _ h => h) (Or.inl ⟨by rfl, ?_⟩) ?_ ?_
  rotate_left
  · intro w'
    go_simp
    with_reducible rfl
  rotate_left
  · simp only [Act.put, List.setIfInBounds_toArray, List.set_cons_zero, List.set_cons_succ, i64_w, i32_w]
    rfl
  refine pure_ (i := 1) (N := some 9) (v := ?_) (a' := ?_) #[true, true, false, false, false, false, false, false, false, false, false, false, false] rfl rfl (by kernel_rfl) (fun _ _ _ h => h) (Or.inl ⟨by rfl, ?_⟩) ?_ ?_
  rotate_left
  · intro w'
    go_simp
    with_reducible rfl
  rotate_left
  · simp only [Act.put, List.setIfInBounds_toArray, List.set_cons_zero, List.set_cons_succ, i64_w, i32_w]
    rfl
  refine pure_ (i := 2) (N := some 10) (v := ?_) (a' := ?_) #[true, true, true, false, false, false, false, false, false, false, false, false, false] rfl rfl (by kernel_rfl) (fun _ _ _ h => h) (Or.inl ⟨by rfl, ?_⟩) ?_ ?_
  rotate_left
  · intro w'
    go_simp
    with_reducible rfl
  rotate_left
  · simp only [Act.put, List.setIfInBounds_toArray, List.set_cons_zero, List.set_cons_succ, i64_w, i32_w]
    rfl
  refine pure_ (i := 3) (N := some 11) (v := ?_) (a' := ?_) #[true, true, true, true, false, false, false, false, false, false, false, false, false] rfl rfl (by kernel_rfl) (fun _ _ _ h => h) (Or.inl ⟨by rfl, ?_⟩) ?_ ?_
  rotate_left
  · intro w'
    go_simp
    with_reducible rfl
  rotate_left
  · simp only [Act.put, List.setIfInBounds_toArray, List.set_cons_zero, List.set_cons_succ, i64_w, i32_w]
    rfl
  refine pure_ (i := 5) (N := some 13) (v := ?_) (a' := ?_) #[true, true, true, true, false, true, false, false, false, false, false, false, false] rfl rfl (by kernel_rfl) (fun _ _ _ h => h) (Or.inl ⟨by rfl, ?_⟩) ?_ ?_
  rotate_left
  · intro w'
    go_simp
    with_reducible rfl
  rotate_left
  · simp only [Act.put, List.setIfInBounds_toArray, List.set_cons_zero, List.set_cons_succ, i64_w, i32_w]
    rfl
  refine pure_ (i := 6) (N := some 14) (v := ?_) (a' := ?_) #[true, true, true, true, false, true, true, false, false, false, false, false, false] rfl rfl (by kernel_rfl) (fun _ _ _ h => h) (Or.inl ⟨by rfl, ?_⟩) ?_ ?_
  rotate_left
  · intro w'
    go_simp
    with_reducible rfl
  rotate_left
  · simp only [Act.put, List.setIfInBounds_toArray, List.set_cons_zero, List.set_cons_succ, i64_w, i32_w]
    rfl
  refine pure_ (i := 7) (N := some 15) (v := ?_) (a' := ?_) #[true, true, true, true, false, true, true, true, false, false, false, false, false] rfl rfl (by kernel_rfl) (fun _ _ _ h => h) (Or.inl ⟨by rfl, ?_⟩) ?_ ?_
  rotate_left
  · intro w'
    go_simp
    with_reducible rfl
  rotate_left
  · simp only [Act.put, List.setIfInBounds_toArray, List.set_cons_zero, List.set_cons_succ, i64_w, i32_w]
    rfl
  refine take_ (i := 4) (N := some 12) (v := ?_) (a' := ?_) #[true, true, true, true, true, true, true, true, false, false, false, false, false] rfl rfl (by kernel_rfl) (fun _ _ _ h => h) (Or.inl ⟨by rfl, ?_⟩) hHeld ?_ ?_
  rotate_left
  · rintro w' ⟨s0, s1⟩
    go_simp
    with_reducible rfl
  rotate_left
  · simp only [Act.put, List.setIfInBounds_toArray, List.set_cons_zero, List.set_cons_succ, i64_w, i32_w]
    rfl
  refine take_ (i := 8) (N := some 16) (v := ?_) (a' := ?_) #[true, true, true, true, true, true, true, true, true, false, false, false, false] rfl rfl (by kernel_rfl) (fun _ _ _ h => h) (Or.inl ⟨by rfl, ?_⟩) hHeld ?_ ?_
  rotate_left
  · rintro w' ⟨s0, s1⟩
    go_simp
    with_reducible rfl
  rotate_left
  · simp only [Act.put, List.setIfInBounds_toArray, List.set_cons_zero, List.set_cons_succ, i64_w, i32_w]
    rfl
  refine one_ (i := 9) (N := some 17) #[true, true, true, true, true, true, true, true, true, true, false, false, false] rfl rfl (by kernel_rfl) (by decide) (fun K hK => ?_)
  refine goes_ Try.func63 (by kernel_rfl) rfl #[.slice none 0 0, .slice A l.length c] (by rfl) rfl rfl (by simp only [List.map_toArray, List.map_cons, List.map_nil]; rfl) ?_
  with_reducible refine (set_nil_wd (.slice A l.length c) n _ (HX.out.below (below_drew (Below.refl _ _))) HL.out).mono ?_
  rintro e w1 ⟨A1, m1, c1, rfl, hv, hb1⟩
  refine ⟨_, rfl, ?_⟩
  have HV := Aside0.mk hv
  have HB := Aside0.mk (show Below w.heap.size w w1 from Below.trans (below_drew (Below.refl _ _)) hb1)
  have q0 := (hb1.cell (p := ⟨bz, oz + 1, none⟩) lz).trans hHeld.1
  have q1 := (hb1.cell (p := ⟨bx, 1, none⟩) lx).trans hHeld.2
  have r0 := (HB.out.cell (p := ⟨bz, oz, none⟩) lz).trans z0
  have r1 := (HB.out.cell (p := ⟨bx, 0, none⟩) lx).trans x0
  have g0 := (HB.out.frozen (p := ⟨bz, oz, none⟩) lz).trans fz0
  have g1 := (HB.out.frozen (p := ⟨bz, oz + 1, none⟩) lz).trans fz1
  clear hv hb1 x0 x1 z0 z1 fz0 fz1 hq
  refine hK.out _ _ ⟨q0, q1⟩ (fun hHeld => ?_)
  clear hK K
  refine norm_ (a' := ?_) ?_ ?_
  rotate_left
  · show Act.put _ (some 17) _ = _
    simp only [Act.put, List.setIfInBounds_toArray, List.set_cons_zero, List.set_cons_succ, i64_w, i32_w]
    rfl
  refine pure_ (i := 10) (N := some 18) (v := ?_) (a' := ?_) #[true, true, true, true, true, true, true, true, true, true, true, false, false] rfl rfl (by kernel_rfl) (fun _ _ _ h => h) (Or.inl ⟨by rfl, ?_⟩) ?_ ?_
  rotate_left
  · intro w'
    go_simp
    with_reducible rfl
  rotate_left
  · simp only [Act.put, List.setIfInBounds_toArray, List.set_cons_zero, List.set_cons_succ, i64_w, i32_w]
    rfl
  refine pure_ (i := 11) (N := some 19) (v := ?_) (a' := ?_) #[true, true, true, true, true, true, true, true, true, true, true, true, false] rfl rfl (by kernel_rfl) (fun _ _ _ h => h) (Or.inl ⟨by rfl, ?_⟩) ?_ ?_
  rotate_left
  · intro w'
    go_simp
    with_reducible rfl
  rotate_left
  · simp only [Act.put, List.setIfInBounds_toArray, List.set_cons_zero, List.set_cons_succ, i64_w, i32_w]
    rfl
  refine last_ (i := 12) (N := none) #[true, true, true, true, true, true, true, true, true, true, true, true, true] rfl rfl (by kernel_rfl) (by decide) (fun K hK => ?_)
  refine skip_ (w1 := ?_) (by rfl) rfl ?_ ?_
  rotate_left
  · go_simp
    rfl
  refine hK.out _ _ ?_
  clear hK K
  refine done_ (by kernel_rfl) ?_
  go_wp2_with (fail)
  go_ret
  exact ⟨_, _, _, w1, rfl, rfl, HV.out, HB.out⟩

theorem words_Lim {l : List Int} (h : okd BW l) (hl : l.length ≤ 25000) : ev BW l < Lim := by
  have h5 := ev_lt h BW_pos
  have h6 : BW ^ l.length ≤ BW ^ 25000 := pow_mono BW_pos hl
  have h7 : (BW : Int) ^ 25000 = Lim := by
    rw [Lim_def, BW_BH, ← Int.pow_mul]
  omega
set_option maxHeartbeats 3200000 in
set_option maxRecDepth 100000 in
theorem ratInt_c (neg : Bool) (A : Option Addr) (m c : Nat) (l : List Int) (w : World) (h : Ws w (.slice A m c) l) (hl : l.length ≤ 20000) :
    Calls Try.prog 14 #[.agg #[.bool neg, .slice A m c]] w fun e w' => ∃ A m c A2 m2 c2, e = .returned (.agg #[.bool (neg && decide (0 < ev BW l)), .slice A m c, .slice A2 m2 c2]) ∧ Wd w' (.slice A m c) (ev BW l) ∧ Wd w' (.slice A2 m2 c2) 1 ∧ Below w.heap.size w w' := by
  have hlim : ev BW l < Lim := by
    obtain ⟨A', c', e, h2, h3, h4⟩ := h
    exact words_Lim h4 (by omega)
  have hmk := make_ints 57 85 .u64 8 Try.underlying57 infoWord (by omega) 1 1 (by omega) (by omega) (by omega)
  have hu := Try.underlying24
  have hb : Below w.heap.size w (((w.alloc (.cells #[.bool neg, .slice A m c] 24)).alloc (.cells #[.bool false, .slice none 0 0, .slice none 0 0] 37)).alloc (.cells #[.bool false, .slice none 0 0, .bool false, .slice none 0 0] 61)) := below_alloc (below_alloc (below_alloc (Below.refl _ _) _) _) _
  have HX := Aside0.mk (h.below hb)
  have HB := Aside0.mk hb
  have HL := Aside0.mk hlim
  have HLL := Aside0.mk hl
  clear h hb hlim hl
  go_enter Try.func14, Try.ntmps14
  go_wp2_with (fail)
  refine (of_impl_c neg A m c l _ HX.out (by have := HLL.out; omega)).mono ?_
  rintro e w1 ⟨g, rfl, hg, hi, hb1⟩
  obtain ⟨vx, hgx, hv⟩ := hi
  have kf := hp_below (show hp _ (w.heap.size + 1) = some (.cells #[.bool false, .slice none 0 0, .slice none 0 0] 37 (0, 0)) from (by simp (disch := first | omega | (simp; omega) | (simp; done) | fail) [hp_new, hp_old, hp_here, hp_other, setObj_cells, hp_drew, hp_drewN])) hb1
  have kr := hp_below (show hp _ (w.heap.size + 1 + 1) = some (.cells #[.bool false, .slice none 0 0, .bool false, .slice none 0 0] 61 (0, 0)) from (by simp (disch := first | omega | (simp; omega) | (simp; done) | fail) [hp_new, hp_old, hp_here, hp_other, setObj_cells, hp_drew, hp_drewN])) hb1
  have HB1 := Aside0.mk (below_step HB.out hb1)
  have KF := Aside0.mk kf
  have KR := Aside0.mk kr
  have KG := Aside0.mk hgx
  have HV := Aside0.mk hv
  have hg2 : w.heap.size + 1 + 1 < g := by simp at hg; omega
  clear hb1 kf kr hgx hv HX HB hg
  go_wp2_with ((fail_if_success go_at_call 45); (fail_if_success go_at_call 26); go_in)
  refine (int_set_c (w.heap.size + 1 + 1) 0 g _ _ false _ vx _ _ KR.out KG.out (by omega) rfl rfl HV.out HL.out).mono ?_
  rintro e w2 ⟨A1, m1, c1, w3, rfl, rfl, hv1, hb3⟩
  have kf := hp_below KF.out hb3
  have kr := hp_below KR.out hb3
  obtain ⟨r0, r1, r2, r3, g0, g1, g2, g3⟩ := blk4 kr
  have HB3 := Aside0.mk (below_step HB1.out hb3)
  have KF3 := Aside0.mk kf
  have KR3 := Aside0.mk kr
  have HV3 := Aside0.mk hv1
  have hs3 := hp_lt kr
  clear hb3 kf kr hv1 KF KR KG HV HB1
  have HVB : Aside0 (Below w.heap.size w ((((w3.setCell ⟨w.heap.size + 1 + 1, 1, none⟩ (.slice A1 m1 c1)).setCell ⟨w.heap.size + 1 + 1, 0, none⟩ (.bool (neg && decide (0 < ev BW l)))).setCell ⟨w.heap.size + 1 + 1, 3, none⟩ (.slice (some ⟨w3.heap.size, 0, none⟩) 1 1)).alloc (.cells #[.int .u64 1] 85))) := ⟨below_alloc (((HB3.out.setCell (p := ⟨w.heap.size + 1 + 1, 1, none⟩) (by simp; omega) _).setCell (p := ⟨w.heap.size + 1 + 1, 0, none⟩) (by simp; omega) _).setCell (p := ⟨w.heap.size + 1 + 1, 3, none⟩) (by simp; omega) _) _⟩
  have hset : ∀ {u : Value} {z : Int}, Wd w3 u z → Wd ((((w3.setCell ⟨w.heap.size + 1 + 1, 1, none⟩ (.slice A1 m1 c1)).setCell ⟨w.heap.size + 1 + 1, 0, none⟩ (.bool (neg && decide (0 < ev BW l)))).setCell ⟨w.heap.size + 1 + 1, 3, none⟩ (.slice (some ⟨w3.heap.size, 0, none⟩) 1 1)).alloc (.cells #[.int .u64 1] 85)) u z := by
    intro u z hz
    refine Wd.below (Wd.set (Wd.set (Wd.set hz r1 (by simp) _) (u := .bool false) ?_ (by simp) _) (u := .slice none 0 0) ?_ (by simp) _) (below_alloc (Below.refl _ _) _)
    · rw [World.cell?_setCell_other _ _ _ _ (by simp)]; exact r0
    · rw [World.cell?_setCell_other _ _ _ _ (by simp), World.cell?_setCell_other _ _ _ _ (by simp)]; exact r3
  have HVS := Aside0.mk (hset HV3.out)
  clear hset
  go_wp2_with ((fail_if_success go_at_call 45); (fail_if_success go_at_call 26); go_in)
  refine (fraction_c (w.heap.size + 1 + 1) (neg && decide (0 < ev BW l)) (ev BW l) 1 _ ⟨.slice A1 m1 c1, .slice (some ⟨w3.heap.size, 0, none⟩) 1 1, false, (by simp (disch := first | omega | (simp; omega) | (simp; done) | fail) [hp_new, hp_old, hp_here, hp_other, setObj_cells, hp_drew, hp_drewN, KR3.out]), HVS.out, one_wd (g := w3.heap.size) (x := 1) (by simp (disch := first | omega | (simp; omega) | (simp; done) | fail) [hp_new, hp_old, hp_here, hp_other, setObj_cells, hp_drew, hp_drewN]) (by omega) (by omega)⟩ HL.out one_Lim (by omega)).mono ?_
  rintro e w2 ⟨A1, m1, cc1, A2, m2, cc2, rfl, hv1, hv2, hb2⟩
  have k0 := hp_below (show hp _ (w.heap.size + 1) = some (.cells #[.bool false, .slice none 0 0, .slice none 0 0] 37 (0, 0)) from (by simp (disch := first | omega | (simp; omega) | (simp; done) | fail) [hp_new, hp_old, hp_here, hp_other, setObj_cells, hp_drew, hp_drewN, KF3.out])) hb2
  have HB2 : Aside0 (Below w.heap.size w w2) := ⟨below_step HVB.out hb2⟩
  obtain ⟨d0, d1, d2, f0, f1, f2⟩ := blk3 k0
  obtain ⟨s, hs0⟩ : ∃ s, s = ((neg && decide (0 < ev BW l)) && decide (0 < ev BW l)) := ⟨_, rfl⟩
  have HS := Aside0.mk hs0
  have hset : ∀ {u : Value} {z : Int}, Wd w2 u z → Wd (((w2.setCell ⟨w.heap.size + 1, 0, none⟩ (.bool s)).setCell ⟨w.heap.size + 1, 1, none⟩ (.slice A1 m1 cc1)).setCell ⟨w.heap.size + 1, 2, none⟩ (.slice A2 m2 cc2)) u z := by
    intro u z hz
    refine Wd.set (Wd.set (Wd.set hz d0 (by simp) _) (u := .slice none 0 0) ?_ (by simp) _) (u := .slice none 0 0) ?_ (by simp) _
    · rw [World.cell?_setCell_other _ _ _ _ (by simp)]; exact d1
    · rw [World.cell?_setCell_other _ _ _ _ (by simp), World.cell?_setCell_other _ _ _ _ (by simp)]; exact d2
  have HV1 := Aside0.mk (hset hv1)
  have HV2 := Aside0.mk (hset hv2)
  have HB3 := Aside0.mk (((HB2.out.setCell (p := ⟨w.heap.size + 1, 0, none⟩) (by simp) (.bool s)).setCell (p := ⟨w.heap.size + 1, 1, none⟩) (by simp) (.slice A1 m1 cc1)).setCell (p := ⟨w.heap.size + 1, 2, none⟩) (by simp) (.slice A2 m2 cc2))
  rw [← hs0]
  clear hset hv1 hv2 hb2 HB2 k0 hs0
  go_wp2_with (fail)
  refine bodyPost_ret (v := .agg #[.bool s, .slice A1 m1 cc1, .slice A2 m2 cc2]) (by simp [results, Try.results14, go_sem, d0, d1, d2, f0, f1, f2]) rfl ?_
  exact ⟨_, _, _, _, _, _, by rw [HS.out]; cases neg <;> simp, HV1.out, HV2.out, HB3.out⟩
end Go.Proofs.Ytapofoipfdjfhaa.Sp
