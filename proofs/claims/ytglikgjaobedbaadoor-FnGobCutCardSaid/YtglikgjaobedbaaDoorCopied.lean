/-
  CONTRACTS of SetInt64 at 1 and of the thin package's 'Copied'.
-/
import Derived.Test.YtglikgjaobedbaaDoorPartsC
namespace Go.Proofs.YtglikgjaobedbaaDoor.Sp
open Go.RowKit Go.Proofs.YtglikgjaobedbaaDoorW.PrintWords Go.Proofs.YtglikgjaobedbaaDoorW.PrintLast Go.Proofs.YtglikgjaobedbaaDoorW.PrintMore Go.Proofs.YtglikgjaobedbaaDoor.Dig
set_option linter.unusedVariables false
set_option linter.unusedSimpArgs false
set_option maxHeartbeats 3200000 in
set_option maxRecDepth 100000 in
theorem setU_c (w : World) : Calls Tryd.prog 73 #[.slice none 0 0, .int .u64 9223372036854775808] w (SetPostW w (fun _ => False) [9223372036854775808]) := by
  have HM := Aside0.mk (make_c (.slice none 0 0) (fun _ => False) 1 w (.inl rfl) (by omega) (by omega))
  go_enter Tryd.func73, Tryd.ntmps73
  go_wp2_with ((fail_if_success go_at_call 98); go_in)
  refine (HM.out).mono ?_
  rintro e w1 ⟨mb, Z, rfl, hn, hmax, hmb, hm, hokZ, hk⟩
  have c0 : w1.cell? ⟨mb, 0, none⟩ = some (.int .u64 (Z.getD 0 0)) := (blk_cell hm 0).trans (u64s_get Z 0 (by omega))
  have f0 : w1.frozen? ⟨mb, 0, none⟩ = false := blk_frozen hm 0
  have lm := hp_lt hm
  have HMM := Aside0.mk hm
  have HK := Aside0.mk hk
  have HO := Aside0.mk hokZ
  have hmb2 : mb = w.heap.size := by rcases hmb with h | h; exact h.elim; exact h
  have HMB := Aside0.mk hmb2
  clear hm hk hokZ hmb hmb2 HM
  go_wp2_with (fail)
  go_ret
  obtain ⟨z, Z, rfl⟩ : ∃ z Z', Z = z :: Z' := by
    cases Z with
    | nil => simp at hn
    | cons z Z' => exact ⟨z, Z', rfl⟩
  refine ⟨mb, Z, (z :: Z).length, rfl, by simp, hmax, .inr HMB.out, ?_, ?_, HK.out.setCell (p := ⟨mb, 0, none⟩) (.inr (by have := HMB.out; show w.heap.size ≤ mb; omega)) _⟩
  · rw [hp_here _ _ _ _ _ rfl, HMM.out]
    simp only [Option.map_some, setObj_cells, u64s_set]
    rfl
  · exact okd_cons.2 ⟨by rw [BW_def]; omega, (okd_cons.1 HO.out).2⟩
/-! ### SetInt64 -/
theorem FltD.of_flt {w : World} {g mb n c : Nat} {p m acc f E : Int} {neg : Bool} {Z : List Int} (h : Flt w g mb p m acc f neg n c E Z) (hc : Z.length = c) : FltD w g (fun k => k = mb) :=
  ⟨_, _, _, _, _, _, _, _, _, h.flt, .inr ⟨mb, n, Z, by rw [hc], h.mant, h.ok, rfl, h.max, h.le⟩, h.ne⟩
theorem canon_one (p : Nat) (hp : 1 ≤ p) (hp2 : p < 64) : Canon p [9223372036854775808] := by
  refine ⟨by intro d hd; simp at hd; subst hd; rw [BW_def]; omega, by simp, by unfold Top; simp, by simp; omega, ?_⟩
  have e : ev BW [9223372036854775808] = 2 ^ (64 - p) * 2 ^ (p - 1) := by
    rw [← Int.pow_add, show 64 - p + (p - 1) = 63 by omega, ev_cons, ev_nil, Int.mul_zero]
    rfl
  rw [e]
  simp
def OnePost (w : World) (g : Nat) (e : Ending) (w' : World) : Prop := e = .returned (.pointer (some ⟨g, 0, none⟩)) ∧ ∃ mb, w.heap.size ≤ mb ∧ mb < w'.heap.size ∧ FltD w' g (fun k => k = mb) ∧ Kept (On g) w w'
set_option maxHeartbeats 6400000 in
set_option maxRecDepth 100000 in
theorem setInt1_c (g p : Nat) (m : Int) (w : World) (h : hp w g = some (.cells #[.int .u32 p, .int .u8 m, .int .i8 0, .int .u8 0, .bool false, .slice none 0 0, .int .i32 0] 91 (0, 0))) (hpm : p ≤ 100000) (hm : 0 ≤ m ∧ m < 6) :
    Calls Tryd.prog 53 #[.pointer (some ⟨g, 0, none⟩), .int .i64 1] w (OnePost w g) := by
  obtain ⟨c0, c1, c2, c3, c4, c5, c6, f0, f1, f2, f3, f4, f5, f6⟩ := blk7 h
  have lg0 := hp_lt h
  have H := Aside0.mk h
  have HL : Aside0 (∀ W, Calls Tryd.prog 110 #[.int .u64 1] W fun e w' => e = .returned (.int .i64 63) ∧ W = w') := ⟨fun W => by
    refine (Sh.bits_LeadingZeros64 1 W (by omega) (by omega)).mono ?_
    rintro e w' ⟨rfl, rfl⟩
    exact ⟨rfl, rfl⟩⟩
  have hsh : shl .u64 1 63 = 9223372036854775808 := rfl
  have hw63 : IntKind.u64.wrap 63 = 63 := rfl
  have hw1 : IntKind.u64.wrap 1 = 1 := rfl
  have hw32 : IntKind.i32.wrap 1 = 1 := rfl
  clear h
  by_cases h0 : p = 0
  · subst h0
    go_enter Tryd.func53, Tryd.ntmps53
    go_wp2_with (first | (go_at_call 110; refine (HL.out _).mono ?_; rintro e w' ⟨rfl, rfl⟩) | ((fail_if_success go_at_call 73); (fail_if_success go_at_call 75); (fail_if_success go_at_call 110); go_in))
    obtain ⟨w1, hw1⟩ : ∃ w1, w1 = (((w.setCell ⟨g, 0, none⟩ (.int .u32 64)).setCell ⟨g, 2, none⟩ (.int .i8 0)).setCell ⟨g, 4, none⟩ (.bool false)).setCell ⟨g, 3, none⟩ (.int .u8 1) := ⟨_, rfl⟩
    have HK1 : Aside0 (Kept (On g) w w1) := ⟨by rw [hw1]; exact ((((Kept.refl (On g) w).setCell (p := ⟨g, 0, none⟩) (.inl rfl) _).setCell (p := ⟨g, 2, none⟩) (.inl rfl) _).setCell (p := ⟨g, 4, none⟩) (.inl rfl) _).setCell (p := ⟨g, 3, none⟩) (.inl rfl) _⟩
    have HG1 : Aside0 (hp w1 g = some (.cells #[.int .u32 64, .int .u8 m, .int .i8 0, .int .u8 1, .bool false, .slice none 0 0, .int .i32 0] 91 (0, 0))) := ⟨by rw [hw1, hp_here _ _ _ _ _ rfl, hp_here _ _ _ _ _ rfl, hp_here _ _ _ _ _ rfl, hp_here _ _ _ _ _ rfl, H.out]; rfl⟩
    rw [← hw1]
    clear hw1 c0 c1 c2 c3 c4 c5 c6 f0 f1 f2 f3 f4 f5 f6
    have hs1 : w.heap.size ≤ w1.heap.size := HK1.out.size
    refine (setU_c w1).mono ?_
    rintro e w2 ⟨mb, R, c, rfl, hc, hmax, hmb, hm, hok, hk⟩
    have hmb2 : mb = w1.heap.size := by rcases hmb with h | h; exact h.elim; exact h
    have hz2 := hp_kept HG1.out hk (fun h => h)
    have hgm : g ≠ mb := by have := hp_lt HG1.out; omega
    obtain ⟨c0, c1, c2, c3, c4, c5, c6, f0, f1, f2, f3, f4, f5, f6⟩ := blk7 hz2
    have lg := hp_lt hz2
    have HF3 : Aside0 (Flt ((w2.setCell ⟨g, 5, none⟩ (.slice (some ⟨mb, 0, none⟩) 1 c)).setCell ⟨g, 6, none⟩ (.int .i32 1)) g mb 64 m 0 1 false 1 c 1 ([9223372036854775808] ++ R)) := ⟨⟨by rw [hp_here _ _ _ _ _ rfl, hp_here _ _ _ _ _ rfl, hz2]; rfl, by rw [hp_other _ _ _ _ hgm, hp_other _ _ _ _ hgm]; exact hm, hgm, hok, by simp, by rw [← hc]; simp, by rw [hc]; exact hmax⟩⟩
    have HK3 : Aside0 (Kept (On g) w ((w2.setCell ⟨g, 5, none⟩ (.slice (some ⟨mb, 0, none⟩) 1 c)).setCell ⟨g, 6, none⟩ (.int .i32 1))) := ⟨((HK1.out.trans hk (fun _ _ h => h.elim)).setCell (p := ⟨g, 5, none⟩) (.inl rfl) _).setCell (p := ⟨g, 6, none⟩) (.inl rfl) _⟩
    have HC := Aside0.mk hc
    have HMB := Aside0.mk (show w.heap.size ≤ mb by omega)
    clear hc hmax hmb hm hok hk hmb2 hz2 HG1 HK1
    go_wp2_with (fail)
    go_ret
    exact ⟨rfl, mb, HMB.out, hp_lt HF3.out.mant, FltD.of_flt HF3.out HC.out, HK3.out⟩
  have h1 : 1 ≤ p := by omega
  have hpb : ((p : Int) == 0) = false := by rw [beq_eq_false_iff_ne]; omega
  by_cases hp64 : p < 64
  · have hd : decide ((p : Int) < 64) = true := decide_eq_true (by omega)
    go_enter Tryd.func53, Tryd.ntmps53
    go_wp2_with (first | (go_at_call 110; refine (HL.out _).mono ?_; rintro e w' ⟨rfl, rfl⟩) | ((fail_if_success go_at_call 73); (fail_if_success go_at_call 75); (fail_if_success go_at_call 110); go_in))
    obtain ⟨w1, hw1⟩ : ∃ w1, w1 = ((w.setCell ⟨g, 2, none⟩ (.int .i8 0)).setCell ⟨g, 4, none⟩ (.bool false)).setCell ⟨g, 3, none⟩ (.int .u8 1) := ⟨_, rfl⟩
    have HK1 : Aside0 (Kept (On g) w w1) := ⟨by rw [hw1]; exact (((Kept.refl (On g) w).setCell (p := ⟨g, 2, none⟩) (.inl rfl) _).setCell (p := ⟨g, 4, none⟩) (.inl rfl) _).setCell (p := ⟨g, 3, none⟩) (.inl rfl) _⟩
    have HG1 : Aside0 (hp w1 g = some (.cells #[.int .u32 p, .int .u8 m, .int .i8 0, .int .u8 1, .bool false, .slice none 0 0, .int .i32 0] 91 (0, 0))) := ⟨by rw [hw1, hp_here _ _ _ _ _ rfl, hp_here _ _ _ _ _ rfl, hp_here _ _ _ _ _ rfl, H.out]; rfl⟩
    rw [← hw1]
    clear hw1 c0 c1 c2 c3 c4 c5 c6 f0 f1 f2 f3 f4 f5 f6
    have hs1 : w.heap.size ≤ w1.heap.size := HK1.out.size
    refine (setU_c w1).mono ?_
    rintro e w2 ⟨mb, R, c, rfl, hc, hmax, hmb, hm, hok, hk⟩
    have hmb2 : mb = w1.heap.size := by rcases hmb with h | h; exact h.elim; exact h
    have hz2 := hp_kept HG1.out hk (fun h => h)
    have hgm : g ≠ mb := by have := hp_lt HG1.out; omega
    obtain ⟨c0, c1, c2, c3, c4, c5, c6, f0, f1, f2, f3, f4, f5, f6⟩ := blk7 hz2
    have lg := hp_lt hz2
    have HF3 : Aside0 (Flt ((w2.setCell ⟨g, 5, none⟩ (.slice (some ⟨mb, 0, none⟩) 1 c)).setCell ⟨g, 6, none⟩ (.int .i32 1)) g mb p m 0 1 false 1 c 1 ([9223372036854775808] ++ R)) := ⟨⟨by rw [hp_here _ _ _ _ _ rfl, hp_here _ _ _ _ _ rfl, hz2]; rfl, by rw [hp_other _ _ _ _ hgm, hp_other _ _ _ _ hgm]; exact hm, hgm, hok, by simp, by rw [← hc]; simp, by rw [hc]; exact hmax⟩⟩
    have HK3 : Aside0 (Kept (On g) w ((w2.setCell ⟨g, 5, none⟩ (.slice (some ⟨mb, 0, none⟩) 1 c)).setCell ⟨g, 6, none⟩ (.int .i32 1))) := ⟨((HK1.out.trans hk (fun _ _ h => h.elim)).setCell (p := ⟨g, 5, none⟩) (.inl rfl) _).setCell (p := ⟨g, 6, none⟩) (.inl rfl) _⟩
    have HC := Aside0.mk hc
    have HMB := Aside0.mk (show w.heap.size ≤ mb by omega)
    clear hc hmax hmb hm hok hk hmb2 hz2 HG1 HK1
    go_wp2_with (fail)
    obtain ⟨w3, hw3⟩ : ∃ w3, w3 = (w2.setCell ⟨g, 5, none⟩ (.slice (some ⟨mb, 0, none⟩) 1 c)).setCell ⟨g, 6, none⟩ (.int .i32 1) := ⟨_, rfl⟩
    rw [← hw3] at HF3 HK3 ⊢
    clear hw3
    refine (round_c g mb p m 0 false c 1 [9223372036854775808] R false 0 w3 HF3.out ⟨h1, by omega⟩ hm (by omega) (by simp) (by simp) rfl).mono ?_
    intro e w4 hr
    obtain ⟨rfl, hk4, R2, hl4, hF4⟩ := round_canon hr (canon_one p h1 hp64) h1
    have HF4 := Aside0.mk hF4
    have HL4 := Aside0.mk hl4
    have HK4 := Aside0.mk hk4
    clear hr hk4 hl4 hF4 c0 c1 c2 c3 c4 c5 c6 f0 f1 f2 f3 f4 f5 f6
    go_wp2_with (fail)
    go_ret
    refine ⟨rfl, mb, HMB.out, hp_lt HF4.out.mant, FltD.of_flt HF4.out (by rw [HL4.out, HC.out]), HK3.out.trans HK4.out (fun i hi h => ?_)⟩
    rcases h with h | h
    · exact h
    · have h2 : i = mb := h
      have := HMB.out
      omega
  · have hd : decide ((p : Int) < 64) = false := decide_eq_false (by omega)
    go_enter Tryd.func53, Tryd.ntmps53
    go_wp2_with (first | (go_at_call 110; refine (HL.out _).mono ?_; rintro e w' ⟨rfl, rfl⟩) | ((fail_if_success go_at_call 73); (fail_if_success go_at_call 75); (fail_if_success go_at_call 110); go_in))
    obtain ⟨w1, hw1⟩ : ∃ w1, w1 = ((w.setCell ⟨g, 2, none⟩ (.int .i8 0)).setCell ⟨g, 4, none⟩ (.bool false)).setCell ⟨g, 3, none⟩ (.int .u8 1) := ⟨_, rfl⟩
    have HK1 : Aside0 (Kept (On g) w w1) := ⟨by rw [hw1]; exact (((Kept.refl (On g) w).setCell (p := ⟨g, 2, none⟩) (.inl rfl) _).setCell (p := ⟨g, 4, none⟩) (.inl rfl) _).setCell (p := ⟨g, 3, none⟩) (.inl rfl) _⟩
    have HG1 : Aside0 (hp w1 g = some (.cells #[.int .u32 p, .int .u8 m, .int .i8 0, .int .u8 1, .bool false, .slice none 0 0, .int .i32 0] 91 (0, 0))) := ⟨by rw [hw1, hp_here _ _ _ _ _ rfl, hp_here _ _ _ _ _ rfl, hp_here _ _ _ _ _ rfl, H.out]; rfl⟩
    rw [← hw1]
    clear hw1 c0 c1 c2 c3 c4 c5 c6 f0 f1 f2 f3 f4 f5 f6
    have hs1 : w.heap.size ≤ w1.heap.size := HK1.out.size
    refine (setU_c w1).mono ?_
    rintro e w2 ⟨mb, R, c, rfl, hc, hmax, hmb, hm, hok, hk⟩
    have hmb2 : mb = w1.heap.size := by rcases hmb with h | h; exact h.elim; exact h
    have hz2 := hp_kept HG1.out hk (fun h => h)
    have hgm : g ≠ mb := by have := hp_lt HG1.out; omega
    obtain ⟨c0, c1, c2, c3, c4, c5, c6, f0, f1, f2, f3, f4, f5, f6⟩ := blk7 hz2
    have lg := hp_lt hz2
    have HF3 : Aside0 (Flt ((w2.setCell ⟨g, 5, none⟩ (.slice (some ⟨mb, 0, none⟩) 1 c)).setCell ⟨g, 6, none⟩ (.int .i32 1)) g mb p m 0 1 false 1 c 1 ([9223372036854775808] ++ R)) := ⟨⟨by rw [hp_here _ _ _ _ _ rfl, hp_here _ _ _ _ _ rfl, hz2]; rfl, by rw [hp_other _ _ _ _ hgm, hp_other _ _ _ _ hgm]; exact hm, hgm, hok, by simp, by rw [← hc]; simp, by rw [hc]; exact hmax⟩⟩
    have HK3 : Aside0 (Kept (On g) w ((w2.setCell ⟨g, 5, none⟩ (.slice (some ⟨mb, 0, none⟩) 1 c)).setCell ⟨g, 6, none⟩ (.int .i32 1))) := ⟨((HK1.out.trans hk (fun _ _ h => h.elim)).setCell (p := ⟨g, 5, none⟩) (.inl rfl) _).setCell (p := ⟨g, 6, none⟩) (.inl rfl) _⟩
    have HC := Aside0.mk hc
    have HMB := Aside0.mk (show w.heap.size ≤ mb by omega)
    clear hc hmax hmb hm hok hk hmb2 hz2 HG1 HK1
    go_wp2_with (fail)
    go_ret
    exact ⟨rfl, mb, HMB.out, hp_lt HF3.out.mant, FltD.of_flt HF3.out HC.out, HK3.out⟩
/-! ### Copy onto a Float that holds a value -/
def Tl (w0 w : World) (g p : Nat) (m f : Int) (neg : Bool) (v x : Int) (b n : Nat) : Prop :=
  (∃ V E, hp w g = some (.cells #[.int .u32 p, .int .u8 m, .int .i8 0, .int .u8 f, .bool neg, V, .int .i32 E] 91 (0, 0))) ∧ ((f = 1 ∧ Own w0 w g p m neg v x b ∧ Tz v n ∧ Bits v b ∧ 0 < v) ∨ (f = 0 ∨ f = 2))
theorem FltD.below {w w1 : World} {g : Nat} {S : Nat → Prop} (h : FltD w g S) (hb : Below w.heap.size w w1) : FltD w1 g S := by
  obtain ⟨a0, a1, a2, a3, a4, A, nm, cm, a6, hz, hd, hS⟩ := h
  refine ⟨a0, a1, a2, a3, a4, A, nm, cm, a6, hp_below hz hb, ?_, hS⟩
  rcases hd with h | ⟨mz, nz, Z, h1, h2, h3, h4, h5⟩
  · exact .inl h
  · exact .inr ⟨mz, nz, Z, h1, hp_below h2 hb, h3, h4, h5⟩
theorem Tl.below {w0 w w1 : World} {g p : Nat} {m f : Int} {neg : Bool} {v x : Int} {b n : Nat} (h : Tl w0 w g p m f neg v x b n) (hb : Below w.heap.size w w1) : Tl w0 w1 g p m f neg v x b n := by
  obtain ⟨⟨V, E, h1⟩, h2 | h2⟩ := h
  · exact ⟨⟨V, E, hp_below h1 hb⟩, .inl ⟨h2.1, h2.2.1.below hb, h2.2.2⟩⟩
  · exact ⟨⟨V, E, hp_below h1 hb⟩, .inr h2⟩
theorem real_tl {w0 w : World} {g p : Nat} {m f : Int} {neg : Bool} {v x : Int} {b n : Nat} (h : Tl w0 w g p m f neg v x b n) (hT : Tb w) (hp1 : 1 ≤ p ∧ p ≤ 600000) (hm : 0 ≤ m ∧ m < 6) (hx : f = 1 → -900000000 ≤ x ∧ x ≤ 900000000) :
    Calls Tryd.prog 33 #[.pointer (some ⟨g, 0, none⟩)] w (RP w p m f neg (tv f v n) (tx f x n)) := by
  obtain ⟨⟨V, E, hc⟩, ⟨rfl, h2, h3, h4, h5⟩ | h1⟩ := h
  · exact real_own 0 n h2 hT h3 h4 h5 hp1 hm (hx rfl)
  · have e1 : tv f v n = 0 := if_neg (by omega)
    have e2 : tx f x n = 0 := if_neg (by omega)
    rw [e1, e2]
    refine (real_spc g p m 0 f neg V E w hc h1 (by omega) (by omega)).mono ?_
    rintro e w' ⟨rfl, hb⟩
    exact ⟨_, _, _, rfl, Wf.nil _ _, hb⟩
theorem both_tl {w0 w : World} {g p : Nat} {m f : Int} {neg : Bool} {v x : Int} {b n : Nat} (h : Tl w0 w g p m f neg v x b n) (hT : Tb w) (hp1 : 1 ≤ p ∧ p ≤ 600000) (hm : 0 ≤ m ∧ m < 6) (hx : f = 1 → -900000000 ≤ x ∧ x ≤ 900000000) :
    Calls Tryd.prog 40 #[.pointer (some ⟨g, 0, none⟩)] w fun e w' => ∃ A mm cc, e = .returned (.tuple #[.agg #[.int .u64 p, .int .i64 m, .int .i64 f, .bool neg, .slice A mm cc, .int .i64 (tx f x n)], .int .i64 0]) ∧ Wf w' w.heap.size (.slice A mm cc) (tv f v n) ∧ Below w.heap.size w w' := by
  obtain ⟨V, E, hc⟩ := h.1
  have hb := below_alloc (Below.refl w.heap.size w) (.cells #[.int .u64 0, .int .i64 0, .int .i64 0, .bool false, .slice none 0 0, .int .i64 0] 28)
  exact both_c g p m 0 f neg V E p m f _ _ neg w hc (real_tl (h.below hb) (hT.below hb hT.2) hp1 hm hx) (by omega)
theorem copy_fl {w0 w1 w : World} {gx p : Nat} {m f : Int} {neg : Bool} {v x : Int} {b n : Nat} (g mb : Nat) (h : Fl w1 w gx p m f neg v x b n) (hd : FltD w g (fun k => k = mb)) (hg : g < w1.heap.size) (hmb : mb < w1.heap.size) (hg0 : w0.heap.size ≤ g) (hmb0 : w0.heap.size ≤ mb) (hp1 : 1 ≤ p ∧ p ≤ 600000) (h01 : w0.heap.size ≤ w.heap.size) :
    Calls Tryd.prog 54 #[.pointer (some ⟨g, 0, none⟩), .pointer (some ⟨gx, 0, none⟩)] w fun e w' => e = .returned (.pointer (some ⟨g, 0, none⟩)) ∧ Tl w0 w' g p m f neg v x b n ∧ Below w0.heap.size w w' := by
  have hgx := h.ge
  rcases h with ⟨rfl, ⟨mx, L, R, c, h1, h2, h3, h4, h5, h6, h7, h8⟩, h9⟩ | ⟨h1, h2, h3⟩
  · have hlen := h5.len
    refine (copy_c g gx mx p (fun k => k = mb) m 0 neg c _ L R w hd h4 (by omega) h5.pos (by omega) (fun e => by have : gx = mb := e; omega) (fun e => by have : mx = mb := e; omega)).mono ?_
    rintro e w' ⟨rfl, hk, mb2, R2, c2, hmb2, hlen2, hF⟩
    refine ⟨rfl, ⟨⟨_, _, hF.flt⟩, .inl ⟨rfl, ⟨mb2, L, R2, c2, hg0, ?_, hlen2, hF, h5, h6, h7, h8⟩, h9⟩⟩, ?_⟩
    · rcases hmb2 with h | h
      · have : mb2 = mb := h
        omega
      · omega
    · refine hk.below (B := w0.heap.size) ?_ h01
      rintro i (h | h)
      · omega
      · have : i = mb := h
        omega
  · obtain ⟨a0, a1, a2, a3, a4, B, nm, cm, a6, hz, _, _⟩ := hd
    refine (copy_spc g gx p m f neg a0 a1 a2 a3 a4 _ a6 w hz h3 (by omega) h1).mono ?_
    rintro e w' ⟨rfl, hS, hk⟩
    exact ⟨rfl, ⟨⟨_, _, hS⟩, .inr h1⟩, hk.below (B := w0.heap.size) (by intro i h; have : i = g := h; omega) h01⟩
set_option maxHeartbeats 3200000 in
set_option maxRecDepth 100000 in
theorem fresh_c (p m : Int) (w : World) (hpx : 0 ≤ p ∧ p ≤ 4000000) (hm : 0 ≤ m ∧ m < 6) : Calls Tryd.prog 31 #[.int .u64 p, .int .i64 m] w fun e w' => e = .returned (.pointer (some ⟨w.heap.size, 0, none⟩)) ∧ hp w' w.heap.size = some (.cells #[.int .u32 p, .int .u8 m, .int .i8 0, .int .u8 0, .bool false, .slice none 0 0, .int .i32 0] 91 (0, 0)) ∧ Below w.heap.size w w' := by
  have hpd : decide ((4294967295 : Int) < p) = false := decide_eq_false (by omega)
  have hmw : IntKind.u8.wrap m = m := by rw [IntKind.wrap_u8']; omega
  have hpw : IntKind.u32.wrap p = p := by rw [IntKind.wrap_u32']; omega
  have HB : Aside0 (Below w.heap.size w w) := ⟨Below.refl _ _⟩
  by_cases h0 : p = 0
  · subst h0
    go_enter Tryd.func31, Tryd.ntmps31
    go_wp2_with (go_in)
    go_ret
    exact ⟨rfl, (by simp (disch := first | omega | (simp; omega) | (simp; done) | fail) [hp_new, hp_old, hp_here, hp_other, setObj_cells, hp_drew, hp_drewN]), (by repeat (first | (with_reducible first | exact HB.out | apply below_alloc | apply pw_below_drewN | apply below_drew1 | refine below_set ?_ (by simp)) | exact HB.out))⟩
  · have hpb : (p == 0) = false := by rw [beq_eq_false_iff_ne]; exact h0
    go_enter Tryd.func31, Tryd.ntmps31
    go_wp2_with (go_in)
    go_ret
    exact ⟨rfl, (by simp (disch := first | omega | (simp; omega) | (simp; done) | fail) [hp_new, hp_old, hp_here, hp_other, setObj_cells, hp_drew, hp_drewN]), (by repeat (first | (with_reducible first | exact HB.out | apply below_alloc | apply pw_below_drewN | apply below_drew1 | refine below_set ?_ (by simp)) | exact HB.out))⟩
set_option maxHeartbeats 6400000 in
set_option maxRecDepth 100000 in
theorem copied_c (p0 : Nat) (m0 : Int) (hp0 : p0 ≤ 10000) (hm0 : 0 ≤ m0 ∧ m0 < 6) (p : Nat) (m f : Int) (neg : Bool) (A : Option Addr) (mm cc : Nat) (x v : Int) (b n : Nat) (X : List Int) (w : World) (h : ROk w p m f A mm cc x v b n X) (hT : Tb w) :
    Calls Tryd.prog 27 #[.int .u64 p0, .int .i64 m0, .agg #[.int .u64 p, .int .i64 m, .int .i64 f, .bool neg, .slice A mm cc, .int .i64 x]] w fun e w' => ∃ A' mm' cc', e = .returned (.tuple #[.agg #[.int .u64 p, .int .i64 m, .int .i64 f, .bool neg, .slice A' mm' cc', .int .i64 (tx f x n)], .int .i64 0]) ∧ Wf w' w.heap.size (.slice A' mm' cc') (tv f v n) ∧ Below w.heap.size w w' := by
  have hu := Tryd.underlying28
  have HB0 := Aside0.mk (below_alloc (below_alloc (Below.refl w.heap.size w) (.cells #[.int .u64 p, .int .i64 m, .int .i64 f, .bool neg, .slice A mm cc, .int .i64 x] 28)) (.cells #[.int .u64 0, .int .i64 0, .int .i64 0, .bool false, .slice none 0 0, .int .i64 0] 28))
  have KX := Aside0.mk (show hp ((w.alloc (.cells #[.int .u64 p, .int .i64 m, .int .i64 f, .bool neg, .slice A mm cc, .int .i64 x] 28)).alloc (.cells #[.int .u64 0, .int .i64 0, .int .i64 0, .bool false, .slice none 0 0, .int .i64 0] 28)) w.heap.size = some (.cells #[.int .u64 p, .int .i64 m, .int .i64 f, .bool neg, .slice A mm cc, .int .i64 x] 28 (0, 0)) from (by simp (disch := first | omega | (simp; omega) | (simp; done) | fail) [hp_new, hp_old, hp_here, hp_other, setObj_cells, hp_drew, hp_drewN]))
  have KR := Aside0.mk (show hp ((w.alloc (.cells #[.int .u64 p, .int .i64 m, .int .i64 f, .bool neg, .slice A mm cc, .int .i64 x] 28)).alloc (.cells #[.int .u64 0, .int .i64 0, .int .i64 0, .bool false, .slice none 0 0, .int .i64 0] 28)) (w.heap.size + 1) = some (.cells #[.int .u64 0, .int .i64 0, .int .i64 0, .bool false, .slice none 0 0, .int .i64 0] 28 (0, 0)) from (by simp (disch := first | omega | (simp; omega) | (simp; done) | fail) [hp_new, hp_old, hp_here, hp_other, setObj_cells, hp_drew, hp_drewN]))
  have HRK := Aside0.mk (h.below HB0.out)
  have HT := Aside0.mk (hT.below HB0.out hT.2)
  have hgT : 2 < w.heap.size := hT.2
  have hp1 := h.1
  have hm1 := h.2.1
  have HX := Aside0.mk h.xb
  clear h hT
  go_enter Tryd.func27, Tryd.ntmps27
  go_upto_region 1 with (fail)
  obtain ⟨w1, hw1⟩ : ∃ w1, w1 = (w.alloc (.cells #[.int .u64 p, .int .i64 m, .int .i64 f, .bool neg, .slice A mm cc, .int .i64 x] 28)).alloc (.cells #[.int .u64 0, .int .i64 0, .int .i64 0, .bool false, .slice none 0 0, .int .i64 0] 28) := ⟨_, rfl⟩
  have hs1 : w1.heap.size = w.heap.size + 1 + 1 := by rw [hw1]; simp
  rw [← hw1] at HB0 KX KR HRK HT ⊢
  clear hw1
  obtain ⟨c0, c1, c2, c3, c4, c5, f0, f1, f2, f3, f4, f5⟩ := blk6 KX.out
  have l1 := hp_lt KX.out
  have hbd : Below w1.heap.size w1 w1.drew := below_drew (Below.refl _ _)
  replace HB0 := Aside0.mk (below_step HB0.out hbd)
  replace HRK := Aside0.mk (HRK.out.below hbd)
  replace HT := Aside0.mk (HT.out.below hbd HT.out.2)
  replace KX := Aside0.mk (hp_below KX.out hbd)
  replace KR := Aside0.mk (hp_below KR.out hbd)
  clear hbd
  refine start_ (n := 12) (S := fun w' => w'.cell? ⟨w.heap.size, 0, none⟩ = some (.int .u64 p) ∧ w'.cell? ⟨w.heap.size, 1, none⟩ = some (.int .i64 m) ∧ w'.cell? ⟨w.heap.size, 2, none⟩ = some (.int .i64 f) ∧ w'.cell? ⟨w.heap.size, 3, none⟩ = some (.bool neg) ∧ w'.cell? ⟨w.heap.size, 4, none⟩ = some (.slice A mm cc) ∧ w'.cell? ⟨w.heap.size, 5, none⟩ = some (.int .i64 x)) (ds := [10]) #[false, false, false, false, false, false, false, false, false, false, false, false] (by kernel_rfl) rfl rfl ⟨(by go_simp), (by go_simp), (by go_simp), (by go_simp), (by go_simp), (by go_simp)⟩ (fun hHeld => ?_)
  refine pure_ (i := 0) (N := some 8) (v := ?_) (a' := ?_) #[true, false, false, false, false, false, false, false, false, false, false, false] rfl rfl (by kernel_rfl) (fun _ _ _ h => h) (Or.inl ⟨by rfl, ?_⟩) ?_ ?_
  rotate_left
  · intro w'
    go_simp
    with_reducible rfl
  rotate_left
  · simp only [Act.put, List.setIfInBounds_toArray, List.set_cons_zero, List.set_cons_succ, i64_w, i32_w]
    rfl
  refine pure_ (i := 1) (N := some 9) (v := ?_) (a' := ?_) #[true, true, false, false, false, false, false, false, false, false, false, false] rfl rfl (by kernel_rfl) (fun _ _ _ h => h) (Or.inl ⟨by rfl, ?_⟩) ?_ ?_
  rotate_left
  · intro w'
    go_simp
    with_reducible rfl
  rotate_left
  · simp only [Act.put, List.setIfInBounds_toArray, List.set_cons_zero, List.set_cons_succ, i64_w, i32_w]
    rfl
  refine take_ (i := 4) (N := some 12) (v := ?_) (a' := ?_) #[true, true, false, false, true, false, false, false, false, false, false, false] rfl rfl (by kernel_rfl) (fun _ _ _ h => h) (Or.inl ⟨by rfl, ?_⟩) hHeld ?_ ?_
  rotate_left
  · rintro w' ⟨s0, s1, s2, s3, s4, s5⟩
    go_simp
    with_reducible rfl
  rotate_left
  · simp only [Act.put, List.setIfInBounds_toArray, List.set_cons_zero, List.set_cons_succ, i64_w, i32_w]
    rfl
  refine one_ (i := 2) (N := some 10) #[true, true, true, false, true, false, false, false, false, false, false, false] rfl rfl (by kernel_rfl) (by decide) (fun K hK => ?_)
  refine goes_ Tryd.func31 (by kernel_rfl) rfl #[.int .u64 p0, .int .i64 m0] (by rfl) rfl rfl (by simp only [List.map_toArray, List.map_cons, List.map_nil]; rfl) ?_
  with_reducible refine (fresh_c p0 m0 _ (by omega) hm0).mono ?_
  rintro e w2 ⟨rfl, hz, hb⟩
  refine ⟨_, rfl, ?_⟩
  have hs2 : w1.heap.size < w2.heap.size := hp_lt (show hp w2 w1.heap.size = _ from hz)
  have HBX : Aside0 (Below w1.heap.size w1.drew w2) := ⟨hb⟩
  have HS1 := Aside0.mk (setInt1_c w1.heap.size p0 m0 w2 hz (by omega) hm0)
  clear hz hb
  refine hK.out _ _ ⟨(blk6 (hp_below KX.out HBX.out)).1, (blk6 (hp_below KX.out HBX.out)).2.1, (blk6 (hp_below KX.out HBX.out)).2.2.1, (blk6 (hp_below KX.out HBX.out)).2.2.2.1, (blk6 (hp_below KX.out HBX.out)).2.2.2.2.1, (blk6 (hp_below KX.out HBX.out)).2.2.2.2.2.1⟩ (fun hHeld => ?_)
  clear hK K
  refine norm_ (a' := ?_) ?_ ?_
  rotate_left
  · show Act.put _ (some 10) _ = _
    simp only [Act.put, List.setIfInBounds_toArray, List.set_cons_zero, List.set_cons_succ, i64_w, i32_w]
    rfl
  refine one_ (i := 3) (N := some 11) #[true, true, true, true, true, false, false, false, false, false, false, false] rfl rfl (by kernel_rfl) (by decide) (fun K hK => ?_)
  refine goes_ Tryd.func53 (by kernel_rfl) rfl #[.pointer (some ⟨w1.heap.size, 0, none⟩), .int .i64 1] (by rfl) rfl rfl (by simp only [List.map_toArray, List.map_cons, List.map_nil]; rfl) ?_
  with_reducible refine (HS1.out).mono ?_
  rintro e w3 ⟨rfl, mb, hmb, hml, hd, hk⟩
  refine ⟨_, rfl, ?_⟩
  have hs3 : w2.heap.size ≤ w3.heap.size := hk.size
  replace HBX := Aside0.mk (HBX.out.trans (hk.below (B := w1.heap.size) (by intro i h; have : i = w1.heap.size := h; omega) (by omega)))
  have HD := Aside0.mk hd
  have HEX := Aside0.mk (exact_fl p m f neg A mm cc x v b n X w3 (HRK.out.below HBX.out))
  clear hd hk HS1
  refine hK.out _ _ ⟨(blk6 (hp_below KX.out HBX.out)).1, (blk6 (hp_below KX.out HBX.out)).2.1, (blk6 (hp_below KX.out HBX.out)).2.2.1, (blk6 (hp_below KX.out HBX.out)).2.2.2.1, (blk6 (hp_below KX.out HBX.out)).2.2.2.2.1, (blk6 (hp_below KX.out HBX.out)).2.2.2.2.2.1⟩ (fun hHeld => ?_)
  clear hK K
  refine norm_ (a' := ?_) ?_ ?_
  rotate_left
  · show Act.put _ (some 11) _ = _
    simp only [Act.put, List.setIfInBounds_toArray, List.set_cons_zero, List.set_cons_succ, i64_w, i32_w]
    rfl
  refine one_ (i := 5) (N := some 13) #[true, true, true, true, true, true, false, false, false, false, false, false] rfl rfl (by kernel_rfl) (by decide) (fun K hK => ?_)
  refine goes_ Tryd.func49 (by kernel_rfl) rfl #[.agg #[.int .u64 p, .int .i64 m, .int .i64 f, .bool neg, .slice A mm cc, .int .i64 x]] (by rfl) rfl rfl (by simp only [List.map_toArray, List.map_cons, List.map_nil]; rfl) ?_
  with_reducible refine (HEX.out).mono ?_
  rintro e w4 ⟨gx, rfl, hF, hb⟩
  refine ⟨_, rfl, ?_⟩
  have hs4 : w3.heap.size ≤ w4.heap.size := hb.size
  replace HD := Aside0.mk (HD.out.below hb)
  replace HBX := Aside0.mk (HBX.out.trans (hb.mono (by omega)))
  have HF := Aside0.mk hF
  clear hF hb HEX
  refine hK.out _ _ ⟨(blk6 (hp_below KX.out HBX.out)).1, (blk6 (hp_below KX.out HBX.out)).2.1, (blk6 (hp_below KX.out HBX.out)).2.2.1, (blk6 (hp_below KX.out HBX.out)).2.2.2.1, (blk6 (hp_below KX.out HBX.out)).2.2.2.2.1, (blk6 (hp_below KX.out HBX.out)).2.2.2.2.2.1⟩ (fun hHeld => ?_)
  clear hK K
  refine norm_ (a' := ?_) ?_ ?_
  rotate_left
  · show Act.put _ (some 13) _ = _
    simp only [Act.put, List.setIfInBounds_toArray, List.set_cons_zero, List.set_cons_succ, i64_w, i32_w]
    rfl
  refine one_ (i := 6) (N := some 14) #[true, true, true, true, true, true, true, false, false, false, false, false] rfl rfl (by kernel_rfl) (by decide) (fun K hK => ?_)
  refine goes_ Tryd.func54 (by kernel_rfl) rfl #[.pointer (some ⟨w1.heap.size, 0, none⟩), .pointer (some ⟨gx, 0, none⟩)] (by rfl) rfl rfl (by simp only [List.map_toArray, List.map_cons, List.map_nil]; rfl) ?_
  with_reducible refine (copy_fl (w0 := w1) w1.heap.size mb HF.out HD.out (by omega) hml (by omega) (by omega) hp1 (by omega)).mono ?_
  rintro e w5 ⟨rfl, hTl, hb⟩
  refine ⟨_, rfl, ?_⟩
  have hs5 : w1.heap.size ≤ w5.heap.size := by have := hb.size; omega
  replace HBX := Aside0.mk (HBX.out.trans hb)
  have HTL := Aside0.mk hTl
  have HT5 := Aside0.mk (HT.out.below HBX.out (show _ < w1.heap.size by omega))
  clear hTl hb HD HF
  refine hK.out _ _ ⟨(blk6 (hp_below KX.out HBX.out)).1, (blk6 (hp_below KX.out HBX.out)).2.1, (blk6 (hp_below KX.out HBX.out)).2.2.1, (blk6 (hp_below KX.out HBX.out)).2.2.2.1, (blk6 (hp_below KX.out HBX.out)).2.2.2.2.1, (blk6 (hp_below KX.out HBX.out)).2.2.2.2.2.1⟩ (fun hHeld => ?_)
  clear hK K
  refine norm_ (a' := ?_) ?_ ?_
  rotate_left
  · show Act.put _ (some 14) _ = _
    simp only [Act.put, List.setIfInBounds_toArray, List.set_cons_zero, List.set_cons_succ, i64_w, i32_w]
    rfl
  refine one_ (i := 7) (N := some 15) #[true, true, true, true, true, true, true, true, false, false, false, false] rfl rfl (by kernel_rfl) (by decide) (fun K hK => ?_)
  refine goes_ Tryd.func40 (by kernel_rfl) rfl #[.pointer (some ⟨w1.heap.size, 0, none⟩)] (by rfl) rfl rfl (by simp only [List.map_toArray, List.map_cons, List.map_nil]; rfl) ?_
  with_reducible refine (both_tl HTL.out HT5.out hp1 hm1 HX.out).mono ?_
  rintro e w6 ⟨A', mm', cc', rfl, hv, hb⟩
  refine ⟨_, rfl, ?_⟩
  replace HBX := Aside0.mk (HBX.out.trans (hb.mono hs5))
  have HB7 := Aside0.mk (HB0.out.trans (HBX.out.mono (by omega)))
  have KR7 := Aside0.mk (hp_below KR.out HBX.out)
  obtain ⟨r0, r1, r2, r3, r4, r5, u0, u1, u2, u3, u4, u5⟩ := blk6 KR7.out
  have l7 := hp_lt KR7.out
  have HV7 := Aside0.mk (hv.mono hs5)
  obtain ⟨y, hy⟩ : ∃ y, y = tx f x n := ⟨_, rfl⟩
  have HY := Aside0.mk hy
  rw [← hy]
  clear hv hb hy c0 c1 c2 c3 c4 c5 f0 f1 f2 f3 f4 f5
  refine hK.out _ _ ⟨(blk6 (hp_below KX.out HBX.out)).1, (blk6 (hp_below KX.out HBX.out)).2.1, (blk6 (hp_below KX.out HBX.out)).2.2.1, (blk6 (hp_below KX.out HBX.out)).2.2.2.1, (blk6 (hp_below KX.out HBX.out)).2.2.2.2.1, (blk6 (hp_below KX.out HBX.out)).2.2.2.2.2.1⟩ (fun hHeld => ?_)
  clear hK K
  refine norm_ (a' := ?_) ?_ ?_
  rotate_left
  · show Act.put _ (some 15) _ = _
    simp only [Act.put, List.setIfInBounds_toArray, List.set_cons_zero, List.set_cons_succ, i64_w, i32_w]
    rfl
  refine pure_ (i := 8) (N := some 16) (v := ?_) (a' := ?_) #[true, true, true, true, true, true, true, true, true, false, false, false] rfl rfl (by kernel_rfl) (fun _ _ _ h => h) (Or.inl ⟨by rfl, ?_⟩) ?_ ?_
  rotate_left
  · intro w'
    go_simp
    with_reducible rfl
  rotate_left
  · simp only [Act.put, List.setIfInBounds_toArray, List.set_cons_zero, List.set_cons_succ, i64_w, i32_w]
    rfl
  refine pure_ (i := 9) (N := some 17) (v := ?_) (a' := ?_) #[true, true, true, true, true, true, true, true, true, true, false, false] rfl rfl (by kernel_rfl) (fun _ _ _ h => h) (Or.inl ⟨by rfl, ?_⟩) ?_ ?_
  rotate_left
  · intro w'
    go_simp
    with_reducible rfl
  rotate_left
  · simp only [Act.put, List.setIfInBounds_toArray, List.set_cons_zero, List.set_cons_succ, i64_w, i32_w]
    rfl
  refine last_ (i := 10) (N := none) #[true, true, true, true, true, true, true, true, true, true, true, false] rfl rfl (by kernel_rfl) (by decide) (fun K hK => ?_)
  refine skip_ (w1 := ?_) (by rfl) rfl ?_ ?_
  rotate_left
  · go_simp
    rfl
  refine hK.out _ _ ?_
  clear hK K
  refine pure_ (i := 11) (N := some 7) (v := ?_) (a' := ?_) #[true, true, true, true, true, true, true, true, true, true, true, true] rfl rfl (by kernel_rfl) (fun _ _ _ h => h) (Or.inl ⟨by rfl, ?_⟩) ?_ ?_
  rotate_left
  · intro w'
    go_simp
    with_reducible rfl
  rotate_left
  · simp only [Act.put, List.setIfInBounds_toArray, List.set_cons_zero, List.set_cons_succ, i64_w, i32_w]
    rfl
  refine done_ (by kernel_rfl) ?_
  go_wp2_with (fail)
  refine bodyPost_ret (v := .tuple #[.agg #[.int .u64 p, .int .i64 m, .int .i64 f, .bool neg, .slice A' mm' cc', .int .i64 y], .int .i64 0]) (by simp [results, Tryd.results27, go_sem, r0, r1, r2, r3, r4, r5, u0, u1, u2, u3, u4, u5]) rfl ?_
  refine ⟨A', mm', cc', by rw [HY.out], ?_, ?_⟩
  · have hw := HV7.out
    refine Wf.mono (B := w1.heap.size) ?_ (by omega)
    exact (((((hw.far (by simp; omega) _).far (by simp; omega) _).far (by simp; omega) _).far (by simp; omega) _).far (by simp; omega) _).far (by simp; omega) _
  · exact (((((HB7.out.setCell (by simp) _).setCell (by simp) _).setCell (by simp) _).setCell (by simp) _).setCell (by simp) _).setCell (by simp) _
end Go.Proofs.YtglikgjaobedbaaDoor.Sp
