/-
  MERGED BY PROGRAM (regroup.py): Fresh, TF, PutA, PutB.
-/
import Derived.Test.YtglikgjaobedbaaDoorGnat
import Derived.Test.YtglikgjaobedbaaDoorGexa
import Derived.Test.YtglikgjaobedbaaDoorSetF2
import Derived.Test.YtglikgjaobedbaaDoorEnded
import Derived.StillTailTactics
import Derived.Tactics
import Derived.Tactics2
import Derived.Defers
import Derived.Recover
import Derived.Laws.Pointers
import Derived.WalkKit
/-! ## Fresh -/
section
namespace Go.Proofs.YtglikgjaobedbaaDoor.Sp
open Go.RowKit Go.Proofs.YtglikgjaobedbaaDoorW.PrintWords Go.Proofs.YtglikgjaobedbaaDoorW.PrintLast Go.Proofs.YtglikgjaobedbaaDoorW.PrintMore Go.Proofs.YtglikgjaobedbaaDoor.Dig
set_option linter.unusedVariables false
set_option linter.unusedSimpArgs false
theorem hp_keep {w w' : World} {k B : Nat} {o : Obj} (h : hp w k = some o) (hb : Below B w w') (hk : k < B) : hp w' k = some o := (hb.block k hk).trans h
set_option maxHeartbeats 3200000 in
set_option maxRecDepth 100000 in
theorem fresh_z (p m : Int) (w : World) (hpx : 0 ≤ p ∧ p ≤ 4000000) (hm : 0 ≤ m ∧ m < 6) : Calls Tryd.prog 31 #[.int .u64 p, .int .i64 m] w fun e w' => e = .returned (.pointer (some ⟨w.heap.size, 0, none⟩)) ∧ hp w' w.heap.size = some (.cells #[.int .u32 p, .int .u8 m, .int .i8 0, .int .u8 0, .bool false, .slice none 0 0, .int .i32 0] 91 (0, 0)) ∧ Below w.heap.size w w' := by
  have hpd : decide ((4294967295 : Int) < p) = false := decide_eq_false (by omega)
  have hmw : IntKind.u8.wrap m = m := by rw [IntKind.wrap_u8']; omega
  have hpw : IntKind.u32.wrap p = p := by rw [IntKind.wrap_u32']; omega
  have HB : Aside0 (Below w.heap.size w w) := ⟨Below.refl _ _⟩
  by_cases h0 : p = 0
  · subst h0
    go_enter Tryd.func31, Tryd.ntmps31
    go_wp2_with (go_in)
    go_ret
    exact ⟨rfl, (by simp (disch := first | omega | (simp; omega) | (simp; done) | fail) [hp_new, hp_old, hp_here, hp_other, setObj_cells, hp_drew, hp_drewN]), (by repeat (first | (with_reducible first | exact HB.out | apply below_alloc | apply pw_below_drewN | apply below_drew1 | refine below_set ?_ (by simp)) | exact HB.out))⟩
  · have hpb : (p == 0) = false := by rw [beq_eq_false_iff_ne]; exact h0
    go_enter Tryd.func31, Tryd.ntmps31
    go_wp2_with (go_in)
    go_ret
    exact ⟨rfl, (by simp (disch := first | omega | (simp; omega) | (simp; done) | fail) [hp_new, hp_old, hp_here, hp_other, setObj_cells, hp_drew, hp_drewN]), (by repeat (first | (with_reducible first | exact HB.out | apply below_alloc | apply pw_below_drewN | apply below_drew1 | refine below_set ?_ (by simp)) | exact HB.out))⟩
end Go.Proofs.YtglikgjaobedbaaDoor.Sp
end

/-! ## TF -/
section
namespace Go.Proofs.YtglikgjaobedbaaDoor.Sp
open Go.RowKit Go.Proofs.YtglikgjaobedbaaDoorW.PrintWords Go.Proofs.YtglikgjaobedbaaDoorW.PrintLast Go.Proofs.YtglikgjaobedbaaDoorW.PrintMore Go.Proofs.YtglikgjaobedbaaDoor.Dig
set_option linter.unusedVariables false
set_option linter.unusedSimpArgs false
/-- A Float in blocks of P: its precision, mode, accuracy, form, sign; told, it is v times 2 to the x. -/
def TF (P : Nat → Prop) (w : World) (g p : Nat) (m acc f : Int) (neg : Bool) (v x : Int) : Prop :=
  P g ∧ (-1 ≤ acc ∧ acc ≤ 1) ∧ ((f = 1 ∧ ∃ mb L R c E t, P mb ∧ Flt w g mb p m acc 1 neg L.length c E (L ++ R) ∧ (L ++ R).length = c ∧ Canon p L ∧ Tz (ev BW L) t ∧ t < 64 * L.length ∧ v = ev BW L / 2 ^ t ∧ x = E - ((64 * L.length - t : Nat) : Int) ∧ -1000000000 ≤ E ∧ E ≤ 1000000000) ∨
    ((f = 0 ∨ f = 2) ∧ v = 0 ∧ x = 0 ∧ ∃ V E, hp w g = some (.cells #[.int .u32 p, .int .u8 m, .int .i8 acc, .int .u8 f, .bool neg, V, .int .i32 E] 91 (0, 0))))
theorem TF.kept {P S : Nat → Prop} {w w' : World} {g p : Nat} {m acc f : Int} {neg : Bool} {v x : Int} (h : TF P w g p m acc f neg v x) (hk : Kept S w w') (hS : ∀ i, P i → ¬ S i) : TF P w' g p m acc f neg v x := by
  obtain ⟨h0, h1, ⟨h2, mb, L, R, c, E, t, h3, h4, h5⟩ | ⟨h2, h3, h4, V, E, h5⟩⟩ := h
  · exact ⟨h0, h1, .inl ⟨h2, mb, L, R, c, E, t, h3, h4.kept hk (hS _ h0) (hS _ h3), h5⟩⟩
  · exact ⟨h0, h1, .inr ⟨h2, h3, h4, V, E, hp_kept h5 hk (hS _ h0)⟩⟩
theorem TF.below {P : Nat → Prop} {w w' : World} {g p : Nat} {m acc f : Int} {neg : Bool} {v x : Int} (h : TF P w g p m acc f neg v x) (hb : Below w.heap.size w w') : TF P w' g p m acc f neg v x := h.kept (Kept.of_below (S := fun _ => False) hb) (fun _ _ h => h)
theorem TF.mono {P Q : Nat → Prop} {w : World} {g p : Nat} {m acc f : Int} {neg : Bool} {v x : Int} (h : TF P w g p m acc f neg v x) (hQ : ∀ i, P i → Q i) : TF Q w g p m acc f neg v x := by
  obtain ⟨h0, h1, ⟨h2, mb, L, R, c, E, t, h3, h4⟩ | h2⟩ := h
  · exact ⟨hQ _ h0, h1, .inl ⟨h2, mb, L, R, c, E, t, hQ _ h3, h4⟩⟩
  · exact ⟨hQ _ h0, h1, .inr h2⟩
theorem TF.cells {P : Nat → Prop} {w : World} {g p : Nat} {m acc f : Int} {neg : Bool} {v x : Int} (h : TF P w g p m acc f neg v x) : ∃ V E, hp w g = some (.cells #[.int .u32 p, .int .u8 m, .int .i8 acc, .int .u8 f, .bool neg, V, .int .i32 E] 91 (0, 0)) := by
  obtain ⟨h0, h1, ⟨rfl, mb, L, R, c, E, t, h3, h4, h5⟩ | ⟨h2, h3, h4, V, E, h5⟩⟩ := h
  · exact ⟨_, _, h4.flt⟩
  · exact ⟨_, _, h5⟩
theorem real_tf {P : Nat → Prop} {w : World} {g p : Nat} {m acc f : Int} {neg : Bool} {v x : Int} (h : TF P w g p m acc f neg v x) (hT : Tb w) (hp1 : 1 ≤ p ∧ p ≤ 1000000) (hm : 0 ≤ m ∧ m < 6) :
    Calls Tryd.prog 33 #[.pointer (some ⟨g, 0, none⟩)] w (RP w p m f neg v x) := by
  obtain ⟨h0, h1, ⟨rfl, mb, L, R, c, E, t, h3, h4, h5, h6, h7, h8, rfl, rfl, h9⟩ | ⟨h2, rfl, rfl, V, E, h5⟩⟩ := h
  · exact real_c g mb p m acc neg c E L R t w h4 h6 h7 hT h8 hp1 hm h9
  · refine (real_spc g p m acc f neg _ E w h5 h2 (by omega) (by omega)).mono ?_
    rintro e w' ⟨rfl, hb⟩
    exact ⟨_, _, _, rfl, Wf.nil _ _, hb⟩
theorem both_tf {P : Nat → Prop} {w : World} {g p : Nat} {m acc f : Int} {neg : Bool} {v x : Int} (h : TF P w g p m acc f neg v x) (hT : Tb w) (hp1 : 1 ≤ p ∧ p ≤ 1000000) (hm : 0 ≤ m ∧ m < 6) :
    Calls Tryd.prog 40 #[.pointer (some ⟨g, 0, none⟩)] w fun e w' => ∃ A mm cc, e = .returned (.tuple #[.agg #[.int .u64 p, .int .i64 m, .int .i64 f, .bool neg, .slice A mm cc, .int .i64 x], .int .i64 acc]) ∧ Wf w' w.heap.size (.slice A mm cc) v ∧ Below w.heap.size w w' := by
  obtain ⟨V, E, hc⟩ := h.cells
  have hb := below_alloc (Below.refl w.heap.size w) (.cells #[.int .u64 0, .int .i64 0, .int .i64 0, .bool false, .slice none 0 0, .int .i64 0] 28)
  exact both_c g p m acc f neg V E p m f v x neg w hc (real_tf (h.below hb) (hT.below hb hT.2) hp1 hm) h.2.1
/-- The float of a mantissa that fits and its exponent. -/
theorem TF.of {P : Nat → Prop} {w : World} {g mb p c : Nat} {m acc E v x : Int} {neg : Bool} {L R : List Int} {s n : Nat} (h : Flt w g mb p m acc 1 neg L.length c E (L ++ R)) (hl : (L ++ R).length = c) (hc : Canon p L) (hg : P g) (hmb : P mb) (ha : -1 ≤ acc ∧ acc ≤ 1) (hv : ev BW L = v * 2 ^ s) (ht : Tz v n) (h0 : 0 < v) (hx : x = E - 64 * L.length + s) (hE : -1000000000 ≤ E ∧ E ≤ 1000000000) : TF P w g p m acc 1 neg (v / 2 ^ n) (x + n) := by
  have htz : Tz (ev BW L) (s + n) := by rw [hv]; exact tz_mul ht s
  have hb : Bits (ev BW L) (64 * L.length) := by
    have := top_range hc.ok hc.pos hc.top
    exact ⟨Int.le_of_lt hc.V_pos, this.2, .inr this.1⟩
  have hlt := tz_lt htz hb hc.V_pos
  refine ⟨hg, ha, .inl ⟨rfl, mb, L, R, c, E, s + n, hmb, h, hl, hc, htz, hlt, ?_, by omega, hE⟩⟩
  rw [hv, Int.pow_add, Int.mul_comm v, Int.mul_ediv_mul_of_pos _ _ (Int.pow_pos (by omega))]
end Go.Proofs.YtglikgjaobedbaaDoor.Sp
end

/-! ## PutA -/
section
namespace Go.Proofs.YtglikgjaobedbaaDoor.Sp
open Go.RowKit Go.Proofs.YtglikgjaobedbaaDoorW.PrintWords Go.Proofs.YtglikgjaobedbaaDoorW.PrintLast Go.Proofs.YtglikgjaobedbaaDoorW.PrintMore Go.Proofs.YtglikgjaobedbaaDoor.Dig Go.Proofs.YtglikgjaobedbaaDoor.Flo
set_option linter.unusedVariables false
set_option linter.unusedSimpArgs false
theorem ev_one (x : Int) : ev BW [x] = x := by rw [ev_cons, ev_nil, Int.mul_zero, Int.add_zero]
theorem rq_pos {neg : Bool} {m V : Int} {b p : Nat} (hb : Bits V b) (h0 : 0 < V) (hp : 1 ≤ p) : 0 < rq neg m V (b - p) false := by
  have h1 : 0 < V / 2 ^ (b - p) := by
    have hb1 := hb.pos h0
    have h2 : (2 : Int) ^ (b - p) ≤ V := by
      rcases hb.2.2 with h | h
      · omega
      · have := pow_mono (b := 2) (by omega) (show b - p ≤ b - 1 by omega)
        omega
    have := (Int.le_ediv_iff_mul_le (tp (b - p)) (a := 1) (b := V)).2 (by omega)
    omega
  unfold rq
  split <;> omega
theorem setF_tf {w w' : World} {g P : Nat} {m : Int} {N : Nat} {e : Ending} (hN : N < 18446744073709551616) (h0 : 0 < N % 9223372036854775808) (h2 : N % 9223372036854775808 < 9218868437227405312) (h : SetFPost w g P m N e w') (hP : 1 ≤ P) (hg : g < w.heap.size) :
    e = .returned (.pointer (some ⟨g, 0, none⟩)) ∧ Kept (On g) w w' ∧ ∃ n, Tz (rq (sg N) m (mg N) (bl N - P) false) n ∧ TF (fun i => i = g ∨ w.heap.size ≤ i) w' g P m (rside (sg N) m (mg N) (bl N - P) false) 1 (sg N) (rq (sg N) m (mg N) (bl N - P) false / 2 ^ n) (ex N + (bl N - P : Nat) + n) := by
  obtain ⟨he, mb, R, c, w2, h3, h4, h5, h6, h7⟩ := h
  have hbl := bl_le N h0
  have hmg : (0 : Int) < mg N := by have := mg_pos N h0; omega
  have hmb := mg_bits N h0
  have hex : -1074 ≤ ex N ∧ ex N ≤ 971 := by unfold ex; split <;> omega
  have hfe := fre_eq N hN h0 h2
  have hmw : (mw N : Int) = mg N * 2 ^ (64 - bl N) := by rw [mw_eq N hN h0]; simp
  have hmwb := mw_b N
  rcases h7 with ⟨hP53, rfl⟩ | ⟨hP53, hr⟩
  · have e0 : bl N - P = 0 := by omega
    have hz := rq_exact (sg N) m (mg N) 0 (by rw [Int.pow_zero, Int.emod_one])
    rw [Int.pow_zero, Int.ediv_one] at hz
    rw [e0, hz.1, hz.2]
    obtain ⟨n, hn⟩ := Tz.exists hmg
    refine ⟨he, h6, n, hn, ?_⟩
    have := TF.of (P := fun i => i = g ∨ w.heap.size ≤ i) (v := mg N) (s := 64 - bl N) (n := n) (x := ex N) (L := [(mw N : Int)]) h5 h4 (mw_canon N P hP53) (.inl rfl) (.inr h3) (by omega) (by rw [ev_one]; exact hmw) hn hmg (by simp; omega) (by omega)
    simpa using this
  · have hok : okd BW [(mw N : Int)] := by intro d hd; simp at hd; subst hd; rw [BW_def]; omega
    have htop : Top [(mw N : Int)] := by unfold Top; simp; omega
    obtain ⟨h8, h9, L2, R2, acc, E2, h10, h11, h12, h13⟩ := round_any hr hok (by simp) htop hP (by simp; omega)
    have hk : Kept (On g) w w' := h6.trans h9 (fun i hi h => by rcases h with h | h; exact h; omega)
    rcases h13 with ⟨h13, _⟩ | ⟨h13, h14, rfl, rfl, h15⟩
    · simp at h13; omega
    have hL2 : L2.length = 1 := by omega
    rw [ev_one] at h15 h11
    simp only [List.length_cons, List.length_nil, Nat.zero_add, Nat.mul_one] at h15 h11 h13
    rw [hL2, Nat.mul_one] at h15
    rw [hmw] at h15 h11
    refine ⟨he, hk, ?_⟩
    by_cases hlt : P < bl N
    · have e1 : 64 - P = (bl N - P) + (64 - bl N) := by omega
      have hs := rq_scale (sg N) m (mg N) (bl N - P) (64 - bl N)
      rw [← e1] at hs
      rw [hs.1] at h15 h11
      rw [hs.2] at h11
      have hq := rq_pos (neg := sg N) (m := m) (b := bl N) (p := P) hmb hmg hP
      obtain ⟨q, hqq⟩ : ∃ q, q = rq (sg N) m (mg N) (bl N - P) false := ⟨_, rfl⟩
      rw [← hqq] at h15 h11 hq ⊢
      by_cases hq2 : q = 2 ^ P
      · have e2 : rmant P q = 2 ^ (P - 1) := if_pos hq2
        have e3 : rexp P q (fre N) = fre N + 1 := if_pos hq2
        rw [e2] at h15
        rw [e3] at h11
        obtain ⟨n, hn⟩ := Tz.exists (tp (P - 1))
        have hqd : q = 2 ^ (P - 1) * 2 ^ 1 := by rw [hq2, ← Int.pow_add, show P - 1 + 1 = P by omega]
        refine ⟨1 + n, by rw [hqd]; exact tz_mul hn 1, ?_⟩
        have := TF.of (P := fun i => i = g ∨ w.heap.size ≤ i) (n := n) (x := fre N + 1 - P) h11 (h10.trans h4) h12 (.inl rfl) (.inr h3) (by unfold rside; split; omega; split <;> omega) h15 hn (tp _) (by omega) (by omega)
        rw [hqd, Int.pow_add, Int.mul_comm (2 ^ (P - 1)) (2 ^ 1), Int.mul_ediv_mul_of_pos _ _ (tp 1), show ex N + ((bl N - P : Nat) : Int) + ((1 + n : Nat) : Int) = fre N + 1 - P + n by omega]
        exact this
      · have e2 : rmant P q = q := if_neg hq2
        have e3 : rexp P q (fre N) = fre N := if_neg hq2
        rw [e2] at h15
        rw [e3] at h11
        obtain ⟨n, hn⟩ := Tz.exists hq
        refine ⟨n, hn, ?_⟩
        have := TF.of (P := fun i => i = g ∨ w.heap.size ≤ i) (n := n) (x := fre N - P) h11 (h10.trans h4) h12 (.inl rfl) (.inr h3) (by unfold rside; split; omega; split <;> omega) h15 hn hq (by omega) (by omega)
        rw [show ex N + ((bl N - P : Nat) : Int) + (n : Int) = fre N - P + n by omega]
        exact this
    · have e0 : bl N - P = 0 := by omega
      have hz := rq_exact (sg N) m (mg N) 0 (by rw [Int.pow_zero, Int.emod_one])
      rw [Int.pow_zero, Int.ediv_one] at hz
      rw [e0, hz.1, hz.2]
      have e4 : (mg N : Int) * 2 ^ (64 - bl N) = mg N * 2 ^ (P - bl N) * 2 ^ (64 - P) := by rw [Int.mul_assoc, ← Int.pow_add, show P - bl N + (64 - P) = 64 - bl N by omega]
      have hx := rq_exact (sg N) m ((mg N : Int) * 2 ^ (64 - bl N)) (64 - P) (by rw [e4, Int.mul_emod_left])
      have e5 : (mg N : Int) * 2 ^ (64 - bl N) / 2 ^ (64 - P) = mg N * 2 ^ (P - bl N) := by rw [e4, Int.mul_ediv_cancel _ (Int.ne_of_gt (tp _))]
      rw [hx.1, e5] at h15 h11
      rw [hx.2] at h11
      have hlt2 : (mg N : Int) * 2 ^ (P - bl N) < 2 ^ P := by
        have := Int.mul_lt_mul_of_pos_right hmb.2.1 (tp (P - bl N))
        rwa [← Int.pow_add, show bl N + (P - bl N) = P by omega] at this
      have e2 : rmant P ((mg N : Int) * 2 ^ (P - bl N)) = mg N * 2 ^ (P - bl N) := if_neg (by omega)
      have e3 : rexp P ((mg N : Int) * 2 ^ (P - bl N)) (fre N) = fre N := if_neg (by omega)
      rw [e2] at h15
      rw [e3] at h11
      obtain ⟨n, hn⟩ := Tz.exists hmg
      refine ⟨n, hn, ?_⟩
      have := TF.of (P := fun i => i = g ∨ w.heap.size ≤ i) (v := mg N) (s := P - bl N + (64 - P)) (n := n) (x := ex N) h11 (h10.trans h4) h12 (.inl rfl) (.inr h3) (by omega) (by rw [h15, Int.mul_assoc, ← Int.pow_add]) hn hmg (by omega) (by omega)
      simpa using this
end Go.Proofs.YtglikgjaobedbaaDoor.Sp
end

/-! ## PutB -/
section
namespace Go.Proofs.YtglikgjaobedbaaDoor.Sp
open Go.RowKit Go.Proofs.YtglikgjaobedbaaDoorW.PrintWords Go.Proofs.YtglikgjaobedbaaDoorW.PrintLast Go.Proofs.YtglikgjaobedbaaDoorW.PrintMore Go.Proofs.YtglikgjaobedbaaDoor.Dig Go.Proofs.YtglikgjaobedbaaDoor.Flo
set_option linter.unusedVariables false
set_option linter.unusedSimpArgs false
set_option maxHeartbeats 3200000 in
set_option maxRecDepth 100000 in
theorem put1_ret (bz bb g N : Nat) (w : World) (R : World → Prop) (kb : hp w bb = some (.cells #[.int .u64 (N : Int)] 32 (0, 0))) (kz : hp w bz = some (.cells #[.pointer (some ⟨g, 0, none⟩)] 62 (0, 0))) (hs : ∀ W, W.heap = w.heap → W.os = w.os → W.output = w.output → W.tape = w.tape → Calls Tryd.prog 45 #[.pointer (some ⟨g, 0, none⟩), .float .f64 N] W fun e w' => e = .returned (.pointer (some ⟨g, 0, none⟩)) ∧ R w') :
    Calls Tryd.prog 44 #[.pointer (some ⟨bz, 0, none⟩), .pointer (some ⟨bb, 0, none⟩)] w fun e w' => e = .returned (.tuple #[]) ∧ R w' := by
  have HC := Aside0.mk (hs w.drew rfl rfl rfl rfl)
  have hfr := f64from N
  obtain ⟨b0, _⟩ := blk1 kb
  obtain ⟨z0, e0⟩ := blk1 kz
  clear kb kz hs
  go_enter Tryd.func44, Tryd.ntmps44
  go_wp2_with (fail)
  go_still_tail 3, (by kernel_rfl)
  change wpList _ _ _ _ _ w.drew
  go_wp2_with (fail)
  refine (HC.out).mono ?_
  rintro e w1 ⟨rfl, hr⟩
  have HR := Aside0.mk hr
  clear hr
  go_wp2_with (fail)
  refine bodyPost_end (v := .tuple #[]) (by simp [results, Tryd.results44, go_sem]) rfl ?_
  exact ⟨rfl, HR.out⟩
set_option maxHeartbeats 3200000 in
set_option maxRecDepth 100000 in
theorem put1_nan (bz bb g N : Nat) (w : World) (R : World → Prop) (kb : hp w bb = some (.cells #[.int .u64 (N : Int)] 32 (0, 0))) (kz : hp w bz = some (.cells #[.pointer (some ⟨g, 0, none⟩)] 62 (0, 0))) (hs : ∀ W, W.heap = w.heap → W.os = w.os → W.output = w.output → W.tape = w.tape → Calls Tryd.prog 45 #[.pointer (some ⟨g, 0, none⟩), .float .f64 N] W fun e w' => (∃ s, e = .panicked (nanChain s false)) ∧ R w') :
    Calls Tryd.prog 44 #[.pointer (some ⟨bz, 0, none⟩), .pointer (some ⟨bb, 0, none⟩)] w fun e w' => (∃ s, e = .panicked (nanChain s false)) ∧ R w' := by
  have HC := Aside0.mk (hs w.drew rfl rfl rfl rfl)
  have hfr := f64from N
  obtain ⟨b0, _⟩ := blk1 kb
  obtain ⟨z0, e0⟩ := blk1 kz
  clear kb kz hs
  go_enter Tryd.func44, Tryd.ntmps44
  go_wp2_with (fail)
  go_still_tail 3, (by kernel_rfl)
  change wpList _ _ _ _ _ w.drew
  go_wp2_with (fail)
  refine (HC.out).mono ?_
  rintro e w1 ⟨⟨s, rfl⟩, hr⟩
  exact ⟨rfl, ⟨s, rfl⟩, hr⟩
set_option maxHeartbeats 1600000 in
set_option maxRecDepth 100000 in
/-- The closure returns: 'ended' tells 0. -/
theorem ended_PutBits (cap : Array Value) (w : World) (S : Nat → Prop) (R : World → Prop) (hS : ¬ S w.heap.size) (hF : Calls Tryd.prog 44 cap (w.alloc (.cells #[.int .i64 0] 3)) fun e w' => e = .returned (.tuple #[]) ∧ R w' ∧ Sp.Kept S (w.alloc (.cells #[.int .i64 0] 3)) w') :
    Calls Tryd.prog 36 #[.func (.func 44) #[] cap] w fun e w' => e = .returned (.int .i64 0) ∧ ∃ w1, R w1 ∧ Sp.Kept S (w.alloc (.cells #[.int .i64 0] 3)) w1 ∧ w' = w1.setCell ⟨w.heap.size, 0, none⟩ (.int .i64 0) := by
  have hmf : ∀ (fn : Fn) (first cap : Array Value) (w : World), (Instr.makeFunc fn first cap).run Tryd.prog w = .ok (.func fn first cap) w := fun _ _ _ _ => rfl
  go_enter_defers Tryd.func36, Tryd.ntmps36
  go_wp2_with (fail)
  refine hF.mono ?_
  rintro e w1 ⟨rfl, hR, hb⟩
  have k0 : hp w1 w.heap.size = some (.cells #[.int .i64 0] 3 (0, 0)) := hp_kept (hp_new _ _ _ rfl) hb hS
  have c0 : w1.cell? ⟨w.heap.size, 0, none⟩ = some (.int .i64 0) := blk_cell k0 0
  have f0 : w1.frozen? ⟨w.heap.size, 0, none⟩ = false := blk_frozen k0 0
  have l0 := hp_lt k0
  have HR := Aside0.mk hR
  have HB := Aside0.mk hb
  clear hR hb hF k0
  go_wp2_with (fail)
  refine leaves_cons (f := 65) (args := #[.pointer (some ⟨w.heap.size, 0, none⟩)]) (by simp) (by simp [go_sem]) ?_
  refine (caught_idle ⟨w.heap.size, 0, none⟩ _).mono ?_
  rintro e u' w'' ⟨rfl, rfl, rfl⟩
  simp [Leaves, settle, results, Tryd.results36, go_sem, c0, f0]
  exact ⟨w1, HR.out, HB.out, rfl⟩
set_option maxHeartbeats 3200000 in
set_option maxRecDepth 100000 in
theorem putB_ret (p : Nat) (m : Int) (N : Nat) (P : Nat) (acc f v x : Int) (neg : Bool) (w : World) (hT : Tb w) (hP : 1 ≤ P ∧ P ≤ 100000) (hpp : p ≤ 100000) (hm : 0 ≤ m ∧ m < 6) (hset : ∀ g W, hp W g = some (.cells #[.int .u32 p, .int .u8 m, .int .i8 0, .int .u8 0, .bool false, .slice none 0 0, .int .i32 0] 91 (0, 0)) → Calls Tryd.prog 45 #[.pointer (some ⟨g, 0, none⟩), .float .f64 N] W fun e w' => e = .returned (.pointer (some ⟨g, 0, none⟩)) ∧ (TF (fun i => i = g ∨ W.heap.size ≤ i) w' g P m acc f neg v x ∧ Kept (On g) W w')) :
    Calls Tryd.prog 18 #[.int .u64 p, .int .i64 m, .int .u64 (N : Int)] w fun e w' => ∃ A mm cc, e = .returned (.tuple #[.agg #[.int .u64 P, .int .i64 m, .int .i64 f, .bool neg, .slice A mm cc, .int .i64 x], .int .i64 acc, .int .i64 0]) ∧ Wf w' w.heap.size (.slice A mm cc) v ∧ Below w.heap.size w w' := by
  have hu := Tryd.underlying28
  have hmf : ∀ (fn : Fn) (first cap : Array Value) (w : World), (Instr.makeFunc fn first cap).run Tryd.prog w = .ok (.func fn first cap) w := fun _ _ _ _ => rfl
  obtain ⟨w0, hw0⟩ : ∃ w0, w0 = (w.alloc (.cells #[.int .u64 (N : Int)] 32)).alloc (.cells #[.int .u64 0, .int .i64 0, .int .i64 0, .bool false, .slice none 0 0, .int .i64 0] 28) := ⟨_, rfl⟩
  have hs0 : w0.heap.size = w.heap.size + 1 + 1 := by rw [hw0]; simp
  have hb0 : Below w.heap.size w w0 := by rw [hw0]; exact below_alloc (below_alloc (Below.refl _ _) _) _
  have KB := Aside0.mk (show hp w0 w.heap.size = some (.cells #[.int .u64 (N : Int)] 32 (0, 0)) from by rw [hw0]; exact (by simp (disch := first | omega | (simp; omega) | (simp; done) | fail) [hp_new, hp_old, hp_here, hp_other, setObj_cells, hp_drew, hp_drewN]))
  have KR := Aside0.mk (show hp w0 (w.heap.size + 1) = some (.cells #[.int .u64 0, .int .i64 0, .int .i64 0, .bool false, .slice none 0 0, .int .i64 0] 28 (0, 0)) from by rw [hw0]; exact (by simp (disch := first | omega | (simp; omega) | (simp; done) | fail) [hp_new, hp_old, hp_here, hp_other, setObj_cells, hp_drew, hp_drewN]))
  have HB0 := Aside0.mk hb0
  have HW0 := Aside0.mk hw0
  have HSET := Aside0.mk hset
  have HFR := Aside0.mk (fresh_z (p : Int) m w0 (by omega) hm)
  have HT0 := Aside0.mk (hT.below hb0 hT.2)
  have hgT : 2 < w.heap.size := hT.2
  clear hT
  have HS0 := Aside0.mk hs0
  clear hb0 hw0 hset hs0
  go_enter Tryd.func18, Tryd.ntmps18
  go_wp2_with (fail)
  rw [← HW0.out]
  refine (HFR.out).mono ?_
  rintro e w1 ⟨rfl, hg1, hb1⟩
  have HG1 := Aside0.mk hg1
  have HB1 := Aside0.mk hb1
  have lg1 := hp_lt hg1
  have KB1 := Aside0.mk (hp_below KB.out hb1)
  have KR1 := Aside0.mk (hp_below KR.out hb1)
  clear hg1 hb1 HFR KB KR HW0
  go_wp2_with (fail)
  obtain ⟨w3, hw3⟩ : ∃ w3, w3 = w1.alloc (.cells #[.pointer (some ⟨w0.heap.size, 0, none⟩)] 62) := ⟨_, rfl⟩
  have hs0 := HS0.out
  have hs3 : w3.heap.size = w1.heap.size + 1 := by rw [hw3]; simp
  have hb3 : Below w1.heap.size w1 w3 := by rw [hw3]; exact below_alloc (Below.refl _ _) _
  have KZ3 := Aside0.mk (show hp w3 w1.heap.size = some (.cells #[.pointer (some ⟨w0.heap.size, 0, none⟩)] 62 (0, 0)) from by rw [hw3, hp_new _ _ _ rfl])
  have HG3 := Aside0.mk (hp_below HG1.out hb3)
  have KB3 := Aside0.mk (hp_below KB1.out hb3)
  have KR3 := Aside0.mk (hp_below KR1.out hb3)
  have HB3 := Aside0.mk (below_step (HB0.out.trans (HB1.out.mono (by omega))) hb3)
  rw [← hw3]
  clear hw3 hb3 HG1 KB1 KR1
  have hba := below_alloc (Below.refl w3.heap.size w3) (.cells #[.int .i64 0] 3)
  have hsa : (w3.alloc (.cells #[.int .i64 0] 3)).heap.size = w3.heap.size + 1 := by simp
  have HEN := Aside0.mk (ended_PutBits #[.pointer (some ⟨w1.heap.size, 0, none⟩), .pointer (some ⟨w.heap.size, 0, none⟩)] w3 (On w0.heap.size) (fun W => TF (fun i => i = w0.heap.size ∨ w3.heap.size + 1 ≤ i) W w0.heap.size P m acc f neg v x) (fun h => by have : w3.heap.size = w0.heap.size := h; omega)
    ((put1_ret w1.heap.size w.heap.size w0.heap.size N _ (fun W => TF (fun i => i = w0.heap.size ∨ w3.heap.size + 1 ≤ i) W w0.heap.size P m acc f neg v x ∧ Kept (On w0.heap.size) (w3.alloc (.cells #[.int .i64 0] 3)) W) (hp_below KB3.out hba) (hp_below KZ3.out hba)
      (fun W h1 h2 h3 h4 => (HSET.out w0.heap.size W (by have := hp_below HG3.out hba; unfold hp at *; rw [h1]; exact this)).mono fun e w' h => ⟨h.1, by
        have h5 := h.2.1
        have hsz : W.heap.size = w3.heap.size + 1 := by rw [h1]; exact hsa
        rw [hsz] at h5
        exact h5, ⟨h.2.2.os.trans h2, h.2.2.tape.trans h4, h.2.2.output.trans h3, by have := h.2.2.size; rw [h1] at this; exact this, fun k hk hS => by
          have := h.2.2.block k (by rw [h1]; exact hk) hS
          rw [this, h1]⟩⟩)).mono fun e w' h => ⟨h.1, h.2.1, h.2.2⟩))
  clear hba HSET
  refine (HEN.out).mono ?_
  rintro e w5 ⟨rfl, w4, htf, hk4, hw5⟩
  have hk5 : Kept (On w3.heap.size) w4 w5 := by rw [hw5]; exact (Kept.refl (On w3.heap.size) w4).setCell (p := ⟨w3.heap.size, 0, none⟩) (.inl rfl) _
  have hk35 : Kept (fun i => i = w0.heap.size ∨ i = w3.heap.size) w3 w5 := ((Kept.of_below (below_alloc (Below.refl w3.heap.size w3) _)).trans hk4 (fun i _ h => .inl h)).trans hk5 (fun i _ h => .inr h)
  have KZ5 := Aside0.mk (hp_kept KZ3.out hk35 (fun h => by rcases h with h | h <;> omega))
  have KR5 := Aside0.mk (hp_kept KR3.out hk35 (fun h => by rcases h with h | h <;> omega))
  have hb35 : Below w.heap.size w3 w5 := hk35.below (B := w.heap.size) (by rintro i (h | h) <;> omega) (by omega)
  have HB5 := Aside0.mk (HB3.out.trans hb35)
  have htf5 := htf.kept hk5 (fun i hi h => by have : i = w3.heap.size := h; rcases hi with hi | hi <;> omega)
  have hT5 : Tb w5 := HT0.out.below (Below.trans (Below.trans (HB1.out.mono (by omega)) (show Below w.heap.size w1 w3 from by
    have := HB3.out; exact ⟨this.os.trans (by have := HB0.out.os; have := HB1.out.os; simp_all), by have := HB0.out.tape; have := HB1.out.tape; have := HB3.out.tape; simp_all, by have := HB0.out.output; have := HB1.out.output; have := HB3.out.output; simp_all, by omega, fun i hi => by
      rw [HB3.out.block i hi, ← HB0.out.block i hi, HB1.out.block i (by omega)]⟩)) hb35) hgT
  have HBO := Aside0.mk (both_tf htf5 hT5 ⟨hP.1, by omega⟩ hm)
  obtain ⟨z0, _⟩ := blk1 KZ5.out
  have hs5 : w3.heap.size ≤ w5.heap.size := hk35.size
  have hs5b : w.heap.size + 1 < w5.heap.size := by omega
  clear hs0 hs3 hsa htf hk4 hw5 hk5 hk35 hb35 htf5 hT5 HEN KZ3 KR3 KB3 HT0 HB0 HB1 HB3 HG3
  go_wp2_with (fail)
  refine (HBO.out).mono ?_
  rintro e w6 ⟨A', mm', cc', rfl, hv, hb6⟩
  have KR6 := Aside0.mk (hp_below KR5.out hb6)
  have HB6 := Aside0.mk (below_step HB5.out hb6)
  have hs6 : w.heap.size + 1 < w6.heap.size := hp_lt KR6.out
  have HV := Aside0.mk hv
  have hs56 : w5.heap.size ≤ w6.heap.size := hb6.size
  clear hv
  obtain ⟨a0, a1, a2, a3, a4, a5, f0, f1, f2, f3, f4, f5⟩ := blk6 KR6.out
  clear hb6 KR5 HB5 KZ5 z0 HBO
  go_wp2_with (fail)
  obtain ⟨w7, hw7⟩ : ∃ w7, w7 = ((((((w6.setCell ⟨w.heap.size + 1, 0, none⟩ (.int .u64 P)).setCell ⟨w.heap.size + 1, 1, none⟩ (.int .i64 m)).setCell ⟨w.heap.size + 1, 2, none⟩ (.int .i64 f)).setCell ⟨w.heap.size + 1, 3, none⟩ (.bool neg)).setCell ⟨w.heap.size + 1, 4, none⟩ (.slice A' mm' cc')).setCell ⟨w.heap.size + 1, 5, none⟩ (.int .i64 x)) := ⟨_, rfl⟩
  have hk7 : hp w7 (w.heap.size + 1) = some (.cells #[.int .u64 P, .int .i64 m, .int .i64 f, .bool neg, .slice A' mm' cc', .int .i64 x] 28 (0, 0)) := by
    rw [hw7, hp_here _ _ _ _ _ rfl, hp_here _ _ _ _ _ rfl, hp_here _ _ _ _ _ rfl, hp_here _ _ _ _ _ rfl, hp_here _ _ _ _ _ rfl, hp_here _ _ _ _ _ rfl, KR6.out]
    rfl
  have hb7 : Below w.heap.size w w7 := by rw [hw7]; exact (((((HB6.out.setCell (by simp) _).setCell (by simp) _).setCell (by simp) _).setCell (by simp) _).setCell (by simp) _).setCell (by simp) _
  have HV7 : Aside0 (Wf w7 w.heap.size (.slice A' mm' cc') v) := ⟨by
    rw [hw7]
    have hw := HV.out
    have hs3 := hs5b
    refine Wf.mono (B := w5.heap.size) ?_ (by omega)
    exact (((((hw.far (by simpa using hs3) _).far (by simpa using hs3) _).far (by simpa using hs3) _).far (by simpa using hs3) _).far (by simpa using hs3) _).far (by simpa using hs3) _⟩
  rw [← hw7]
  clear hw7 a0 a1 a2 a3 a4 a5 f0 f1 f2 f3 f4 f5
  have hba := below_alloc (Below.refl w7.heap.size w7) (.cells #[.int .u64 P, .int .i64 m, .int .i64 f, .bool neg, .slice A' mm' cc', .int .i64 x] 28)
  obtain ⟨w8, hw8⟩ : ∃ w8, w8 = w7.alloc (.cells #[.int .u64 P, .int .i64 m, .int .i64 f, .bool neg, .slice A' mm' cc', .int .i64 x] 28) := ⟨_, rfl⟩
  rw [← hw8] at hba ⊢
  clear hw8
  obtain ⟨r0, r1, r2, r3, r4, r5, _, _, _, _, _, _⟩ := blk6 (hp_below hk7 hba)
  refine bodyPost_ret (v := .tuple #[.agg #[.int .u64 P, .int .i64 m, .int .i64 f, .bool neg, .slice A' mm' cc', .int .i64 x], .int .i64 acc, .int .i64 0]) (by simp [results, Tryd.results18, go_sem, r0, r1, r2, r3, r4, r5]) rfl ?_
  exact ⟨A', mm', cc', rfl, HV7.out.below hba, hb7.trans (hba.mono hb7.size)⟩
set_option maxHeartbeats 3200000 in
set_option maxRecDepth 100000 in
theorem putB_nan (p : Nat) (m : Int) (N : Nat) (w : World) (hpp : p ≤ 100000) (hm : 0 ≤ m ∧ m < 6) (hset : ∀ g W, hp W g = some (.cells #[.int .u32 p, .int .u8 m, .int .i8 0, .int .u8 0, .bool false, .slice none 0 0, .int .i32 0] 91 (0, 0)) → Calls Tryd.prog 45 #[.pointer (some ⟨g, 0, none⟩), .float .f64 N] W fun e w' => (∃ s, e = .panicked (nanChain s false)) ∧ Kept (On g) W w') :
    Calls Tryd.prog 18 #[.int .u64 p, .int .i64 m, .int .u64 (N : Int)] w fun e w' => e = .returned (.tuple #[.agg #[.int .u64 0, .int .i64 0, .int .i64 0, .bool false, .slice none 0 0, .int .i64 0], .int .i64 0, .int .i64 1]) ∧ Below w.heap.size w w' := by
  have hu := Tryd.underlying28
  have hmf : ∀ (fn : Fn) (first cap : Array Value) (w : World), (Instr.makeFunc fn first cap).run Tryd.prog w = .ok (.func fn first cap) w := fun _ _ _ _ => rfl
  obtain ⟨w0, hw0⟩ : ∃ w0, w0 = (w.alloc (.cells #[.int .u64 (N : Int)] 32)).alloc (.cells #[.int .u64 0, .int .i64 0, .int .i64 0, .bool false, .slice none 0 0, .int .i64 0] 28) := ⟨_, rfl⟩
  have hs0 : w0.heap.size = w.heap.size + 1 + 1 := by rw [hw0]; simp
  have hb0 : Below w.heap.size w w0 := by rw [hw0]; exact below_alloc (below_alloc (Below.refl _ _) _) _
  have KB := Aside0.mk (show hp w0 w.heap.size = some (.cells #[.int .u64 (N : Int)] 32 (0, 0)) from by rw [hw0]; exact (by simp (disch := first | omega | (simp; omega) | (simp; done) | fail) [hp_new, hp_old, hp_here, hp_other, setObj_cells, hp_drew, hp_drewN]))
  have KR := Aside0.mk (show hp w0 (w.heap.size + 1) = some (.cells #[.int .u64 0, .int .i64 0, .int .i64 0, .bool false, .slice none 0 0, .int .i64 0] 28 (0, 0)) from by rw [hw0]; exact (by simp (disch := first | omega | (simp; omega) | (simp; done) | fail) [hp_new, hp_old, hp_here, hp_other, setObj_cells, hp_drew, hp_drewN]))
  have HB0 := Aside0.mk hb0
  have HW0 := Aside0.mk hw0
  have HSET := Aside0.mk hset
  have HFR := Aside0.mk (fresh_z (p : Int) m w0 (by omega) hm)
  have HS0 := Aside0.mk hs0
  clear hb0 hw0 hset hs0
  go_enter Tryd.func18, Tryd.ntmps18
  go_wp2_with (fail)
  rw [← HW0.out]
  refine (HFR.out).mono ?_
  rintro e w1 ⟨rfl, hg1, hb1⟩
  have HG1 := Aside0.mk hg1
  have HB1 := Aside0.mk hb1
  have lg1 := hp_lt hg1
  have KB1 := Aside0.mk (hp_below KB.out hb1)
  have KR1 := Aside0.mk (hp_below KR.out hb1)
  clear hg1 hb1 HFR KB KR HW0
  go_wp2_with (fail)
  obtain ⟨w3, hw3⟩ : ∃ w3, w3 = w1.alloc (.cells #[.pointer (some ⟨w0.heap.size, 0, none⟩)] 62) := ⟨_, rfl⟩
  have hs0 := HS0.out
  have hs3 : w3.heap.size = w1.heap.size + 1 := by rw [hw3]; simp
  have hb3 : Below w1.heap.size w1 w3 := by rw [hw3]; exact below_alloc (Below.refl _ _) _
  have KZ3 := Aside0.mk (show hp w3 w1.heap.size = some (.cells #[.pointer (some ⟨w0.heap.size, 0, none⟩)] 62 (0, 0)) from by rw [hw3, hp_new _ _ _ rfl])
  have HG3 := Aside0.mk (hp_below HG1.out hb3)
  have KB3 := Aside0.mk (hp_below KB1.out hb3)
  have KR3 := Aside0.mk (hp_below KR1.out hb3)
  have HB3 := Aside0.mk (below_step (HB0.out.trans (HB1.out.mono (by omega))) hb3)
  rw [← hw3]
  clear hw3 hb3 HG1 KB1 KR1
  have hba := below_alloc (Below.refl w3.heap.size w3) (.cells #[.int .i64 0] 3)
  have hsa : (w3.alloc (.cells #[.int .i64 0] 3)).heap.size = w3.heap.size + 1 := by simp
  have HEN := Aside0.mk (endedNaN_PutBits #[.pointer (some ⟨w1.heap.size, 0, none⟩), .pointer (some ⟨w.heap.size, 0, none⟩)] w3 (On w0.heap.size) (fun _ => True) (fun h => by have : w3.heap.size = w0.heap.size := h; omega)
    ((put1_nan w1.heap.size w.heap.size w0.heap.size N _ (fun W => Kept (On w0.heap.size) (w3.alloc (.cells #[.int .i64 0] 3)) W) (hp_below KB3.out hba) (hp_below KZ3.out hba)
      (fun W h1 h2 h3 h4 => (HSET.out w0.heap.size W (by have := hp_below HG3.out hba; unfold hp at *; rw [h1]; exact this)).mono fun e w' h => ⟨h.1, ⟨h.2.os.trans h2, h.2.tape.trans h4, h.2.output.trans h3, by have := h.2.size; rw [h1] at this; exact this, fun k hk hS => by
          have := h.2.block k (by rw [h1]; exact hk) hS
          rw [this, h1]⟩⟩)).mono fun e w' h => ⟨h.1, trivial, h.2⟩))
  clear hba HSET
  refine (HEN.out).mono ?_
  rintro e w5 ⟨rfl, w4, _, hk4, hk5⟩
  have hk35 : Kept (fun i => i = w0.heap.size ∨ i = w3.heap.size) w3 w5 := ((Kept.of_below (below_alloc (Below.refl w3.heap.size w3) _)).trans hk4 (fun i _ h => .inl h)).trans hk5 (fun i _ h => .inr h)
  have KR5 := Aside0.mk (hp_kept KR3.out hk35 (fun h => by rcases h with h | h <;> omega))
  have hb35 : Below w.heap.size w3 w5 := hk35.below (B := w.heap.size) (by rintro i (h | h) <;> omega) (by omega)
  have HB5 := Aside0.mk (HB3.out.trans hb35)
  have hs5 : w.heap.size + 1 < w5.heap.size := hp_lt KR5.out
  clear hs0 hs3 hsa hk4 hk5 hk35 hb35 HEN KZ3 KR3 KB3 HB0 HB1 HB3 HG3
  obtain ⟨a0, a1, a2, a3, a4, a5, f0, f1, f2, f3, f4, f5⟩ := blk6 KR5.out
  go_wp2_with (fail)
  obtain ⟨w6, hw6⟩ : ∃ w6, w6 = ((((((w5.setCell ⟨w.heap.size + 1, 0, none⟩ (.int .u64 0)).setCell ⟨w.heap.size + 1, 1, none⟩ (.int .i64 0)).setCell ⟨w.heap.size + 1, 2, none⟩ (.int .i64 0)).setCell ⟨w.heap.size + 1, 3, none⟩ (.bool false)).setCell ⟨w.heap.size + 1, 4, none⟩ (.slice none 0 0)).setCell ⟨w.heap.size + 1, 5, none⟩ (.int .i64 0)) := ⟨_, rfl⟩
  have hk6 : hp w6 (w.heap.size + 1) = some (.cells #[.int .u64 0, .int .i64 0, .int .i64 0, .bool false, .slice none 0 0, .int .i64 0] 28 (0, 0)) := by
    rw [hw6, hp_here _ _ _ _ _ rfl, hp_here _ _ _ _ _ rfl, hp_here _ _ _ _ _ rfl, hp_here _ _ _ _ _ rfl, hp_here _ _ _ _ _ rfl, hp_here _ _ _ _ _ rfl, KR5.out]
    rfl
  have hb6 : Below w.heap.size w w6 := by rw [hw6]; exact (((((HB5.out.setCell (by simp) _).setCell (by simp) _).setCell (by simp) _).setCell (by simp) _).setCell (by simp) _).setCell (by simp) _
  rw [← hw6]
  clear hw6 a0 a1 a2 a3 a4 a5 f0 f1 f2 f3 f4 f5
  obtain ⟨r0, r1, r2, r3, r4, r5, _, _, _, _, _, _⟩ := blk6 hk6
  refine bodyPost_ret (v := .tuple #[.agg #[.int .u64 0, .int .i64 0, .int .i64 0, .bool false, .slice none 0 0, .int .i64 0], .int .i64 0, .int .i64 1]) (by simp [results, Tryd.results18, go_sem, r0, r1, r2, r3, r4, r5]) rfl ?_
  exact ⟨rfl, hb6⟩
end Go.Proofs.YtglikgjaobedbaaDoor.Sp
end
