/-
  CONTRACTS of the thin package's 'Gob' and 'GobBack' at a finite value; bytes that are cut.
-/
import Derived.Test.YtglikgjaobedbaaDoorGobX
namespace Go.Proofs.YtglikgjaobedbaaDoor.Sp
open Go.RowKit Go.Proofs.YtglikgjaobedbaaDoorW.PrintWords Go.Proofs.YtglikgjaobedbaaDoorW.PrintLast Go.Proofs.YtglikgjaobedbaaDoorW.PrintMore Go.Proofs.YtglikgjaobedbaaDoor.Dig
set_option linter.unusedVariables false
set_option linter.unusedSimpArgs false
set_option maxHeartbeats 3200000 in
set_option maxRecDepth 100000 in
theorem gob_fin (p b : Nat) (m : Int) (neg : Bool) (A : Option Addr) (mm cc : Nat) (x v : Int) (X : List Int) (w : World) (h : Ws w (.slice A mm cc) X) (hX : X.length ≤ 10000) (hv : ev BW X = v) (hv0 : 0 < v) (hb : Bits v b) (hbp : b ≤ p) (hp1 : 1 ≤ p ∧ p ≤ 600000) (hm : 0 ≤ m ∧ m < 6) (hx : -900000000 ≤ x ∧ x ≤ 900000000) :
    Calls Tryd.prog 29 #[.agg #[.int .u64 p, .int .i64 m, .int .i64 1, .bool neg, .slice A mm cc, .int .i64 x]] w fun e w' => ∃ gb N E L, N = (encF p m neg E L).length ∧ e = .returned (.tuple #[.slice (some ⟨gb, 0, none⟩) N N, .bool true]) ∧ hp w' gb = some (.cells (u8s (encF p m neg E L)) 5 (0, 0)) ∧ Canon p L ∧ -1000000000 ≤ E ∧ E ≤ 1000000000 ∧ Below w.heap.size w w' := by
  have hu := Tryd.underlying28
  have HB0 := Aside0.mk (below_alloc (Below.refl w.heap.size w) (.cells #[.int .u64 p, .int .i64 m, .int .i64 1, .bool neg, .slice A mm cc, .int .i64 x] 28))
  have HE := Aside0.mk (exact_c p b m neg A mm cc x v X _ (h.below HB0.out) hX hv hv0 hb hbp hp1 hm (by omega))
  clear h hv hv0 hb hX
  go_enter Tryd.func29, Tryd.ntmps29
  go_wp2_with (fail)
  refine (HE.out).mono ?_
  rintro e w1 ⟨g, rfl, ⟨mb, L, R, c, k1, k2, k3, k4, k5, k6, k7, k8⟩, hb1⟩
  have HB1 := Aside0.mk (below_step HB0.out hb1)
  have HC := Aside0.mk k5
  have HGE := Aside0.mk (gobEnc_fin g mb p m neg c _ L R w1 k4 k5 hp1 hm (by omega))
  clear k1 k2 k3 k4 k5 k6 k7 k8 hb1 HE
  go_wp2_with (fail)
  refine (HGE.out).mono ?_
  rintro e w2 ⟨gb, N, hgb, hN, rfl, hk, hb2⟩
  have HB2 := Aside0.mk (below_step HB1.out hb2)
  have HK := Aside0.mk hk
  have HN := Aside0.mk hN
  clear hk hb2 hN HGE
  go_wp2_with (fail)
  refine start_ (n := 5) (S := fun w' => True) (ds := []) #[false, false, false, false, false] (by kernel_rfl) rfl rfl trivial (fun hHeld => ?_)
  refine pure_ (i := 0) (N := some 12) (v := ?_) (a' := ?_) #[true, false, false, false, false] rfl rfl (by kernel_rfl) (fun _ _ _ h => h) (Or.inl ⟨by rfl, ?_⟩) ?_ ?_
  rotate_left
  · intro w'
    go_simp
    with_reducible rfl
  rotate_left
  · simp only [Act.put, List.setIfInBounds_toArray, List.set_cons_zero, List.set_cons_succ, i64_w, i32_w]
    rfl
  refine pure_ (i := 1) (N := some 13) (v := ?_) (a' := ?_) #[true, true, false, false, false] rfl rfl (by kernel_rfl) (fun _ _ _ h => h) (Or.inl ⟨by rfl, ?_⟩) ?_ ?_
  rotate_left
  · intro w'
    go_simp
    with_reducible rfl
  rotate_left
  · simp only [Act.put, List.setIfInBounds_toArray, List.set_cons_zero, List.set_cons_succ, i64_w, i32_w]
    rfl
  refine pure_ (i := 2) (N := some 14) (v := ?_) (a' := ?_) #[true, true, true, false, false] rfl rfl (by kernel_rfl) (fun _ _ _ h => h) (Or.inl ⟨by rfl, ?_⟩) ?_ ?_
  rotate_left
  · intro w'
    go_simp
    with_reducible rfl
  rotate_left
  · simp only [Act.put, List.setIfInBounds_toArray, List.set_cons_zero, List.set_cons_succ, i64_w, i32_w]
    rfl
  refine pure_ (i := 3) (N := some 2) (v := ?_) (a' := ?_) #[true, true, true, true, false] rfl rfl (by kernel_rfl) (fun _ _ _ h => h) (Or.inl ⟨by rfl, ?_⟩) ?_ ?_
  rotate_left
  · intro w'
    go_simp
    with_reducible rfl
  rotate_left
  · simp only [Act.put, List.setIfInBounds_toArray, List.set_cons_zero, List.set_cons_succ, i64_w, i32_w]
    rfl
  refine pure_ (i := 4) (N := some 3) (v := ?_) (a' := ?_) #[true, true, true, true, true] rfl rfl (by kernel_rfl) (fun _ _ _ h => h) (Or.inl ⟨by rfl, ?_⟩) ?_ ?_
  rotate_left
  · intro w'
    go_simp
    with_reducible rfl
  rotate_left
  · simp only [Act.put, List.setIfInBounds_toArray, List.set_cons_zero, List.set_cons_succ, i64_w, i32_w]
    rfl
  refine done_ (by kernel_rfl) ?_
  go_wp2_with (fail)
  refine bodyPost_ret (v := .tuple #[.slice (some ⟨gb, 0, none⟩) N N, .bool true]) (by simp [results, Tryd.results29, go_sem]) rfl ?_
  exact ⟨gb, N, _, L, by rw [encF_len, HN.out], rfl, (hp_drew _ _).trans HK.out, HC.out, by omega, by omega, below_drew HB2.out⟩
set_option maxHeartbeats 3200000 in
set_option maxRecDepth 100000 in
theorem gobBack_fin (gb p : Nat) (m : Int) (neg : Bool) (E : Int) (L : List Int) (N : Nat) (w : World) (hg : hp w gb = some (.cells (u8s (encF p m neg E L)) 5 (0, 0))) (hN : N = (encF p m neg E L).length) (hcan : Canon p L) (hp1 : 1 ≤ p ∧ p ≤ 600000) (hm : 0 ≤ m ∧ m < 6) (hE : -1000000000 ≤ E ∧ E ≤ 1000000000) (hT : Tb w) :
    Calls Tryd.prog 30 #[.int .u64 0, .int .i64 0, .slice (some ⟨gb, 0, none⟩) N N] w fun e w' => ∃ A mm cc q, e = .returned (.tuple #[.agg #[.int .u64 p, .int .i64 m, .int .i64 1, .bool neg, .slice A mm cc, .int .i64 q], .int .i64 0, .bool true]) ∧ Below w.heap.size w w' := by
  have hlen := hcan.len
  have hlN := encF_len p m neg E L
  have hcg := enc_C (w := w) 0 (encF p m neg E L) hg (by omega)
  have HNL := Aside0.mk hN
  have HNM := Aside0.mk (show 10 ≤ N ∧ N ≤ 900000 by omega)
  have HCAN := Aside0.mk hcan
  have HT := Aside0.mk hT
  have hNM : N ≤ 900000 := by omega
  clear hlN hcan hT hN hlen
  have hu := Tryd.underlying28
  have HB0 := Aside0.mk (below_alloc (Below.refl w.heap.size w) (.cells #[.int .u64 0, .int .i64 0, .int .i64 0, .bool false, .slice none 0 0, .int .i64 0] 28))
  have HCG := Aside0.mk hcg
  clear hg hcg
  go_enter Tryd.func30, Tryd.ntmps30
  go_wp2_with (fail)
  refine (fresh_c 0 0 _ (by omega) (by omega)).mono ?_
  rintro e w1 ⟨rfl, hz, hb1⟩
  have hs0 : (w.alloc (.cells #[.int .u64 0, .int .i64 0, .int .i64 0, .bool false, .slice none 0 0, .int .i64 0] 28)).heap.size = w.heap.size + 1 := by simp
  rw [hs0] at hz hb1 ⊢
  have KR := Aside0.mk (hp_bel2 (show hp (w.alloc (.cells #[.int .u64 0, .int .i64 0, .int .i64 0, .bool false, .slice none 0 0, .int .i64 0] 28)) w.heap.size = some (.cells #[.int .u64 0, .int .i64 0, .int .i64 0, .bool false, .slice none 0 0, .int .i64 0] 28 (0, 0)) from hp_new _ _ _ rfl) hb1 (by omega))
  have HB1 := Aside0.mk (HB0.out.trans (hb1.mono (by omega)))
  have HZ := Aside0.mk hz
  have hsz1 : w.heap.size + 1 < w1.heap.size := hp_lt hz
  obtain ⟨w0, hw0⟩ : ∃ w0, w0 = w1.alloc (.cells #[] 5) := ⟨_, rfl⟩
  have hb0 : Below w1.heap.size w1 w0 := by rw [hw0]; exact below_alloc (Below.refl _ _) _
  have HC := Aside0.mk (Kd.C_below (Kd.C_below HCG.out ((HB1.out).mono (Nat.le_refl _))) hb0)
  have HO : Aside0 (Kd.R (Kd.int .u8) 5 w0 w1.heap.size (fun k => w1.heap.size ≤ k) (.slice (some ⟨w1.heap.size, 0, none⟩) 0 0) []) := ⟨R_empty .u8 (by rw [hw0]; exact hp_new _ _ _ (by simp)) (Nat.le_refl _)⟩
  have hsz : w0.heap.size = w1.heap.size + 1 := by rw [hw0]; simp
  have HBB := Aside0.mk hb0
  have HW0 := Aside0.mk hw0
  clear hz hb1 hb0 hw0
  go_wp2_with ((with_reducible refine gate_builtin (b := .append) (xs := #[.tmp 16, .tmp 17]) rfl ?_); at_builtin; rw [← HW0.out]; go_must (refine Kd.R_append_row (Value.int .u8) (0 : Int) (w0 := w0) w1.heap.size rfl (.tmp 16) (.tmp 17) 56 5 (.int .u8 0) 1 rfl Tryd.underlying56 infoU8 rfl (by decide) (.slice (some ⟨w1.heap.size, 0, none⟩) 0 0) [] (encF p m neg E L) (some ⟨gb, 0, none⟩) N N (fun k => w1.heap.size ≤ k) rfl rfl (fun k hk => by omega) HO.out (by first | exact HC.out | (rw [HNL.out]; exact HC.out) | fail) (Below.refl _ _) (by omega) (by first | (simp; done) | (simp; omega) | fail) ?_); intro v1 w2 ho hb hg hat)
  have ho : Kd.R (Kd.int .u8) 5 w2 w1.heap.size (fun k => w1.heap.size ≤ k) v1 (encF p m neg E L) := ho
  have hb12 : Below w1.heap.size w1 w2 := HBB.out.trans hb
  have hz2 := hp_bel2 HZ.out hb12 (by omega)
  have KR2 := Aside0.mk (hp_bel2 KR.out hb12 (by omega))
  have HB2 := Aside0.mk (HB1.out.trans (hb12.mono (by omega)))
  obtain ⟨inner, ho2⟩ := Kd.R_own ho
  have hne : (encF p m neg E L).length ≠ 0 := by rw [← HNL.out]; have := HNM.out; omega
  obtain ⟨g2, c2, e2, _, _⟩ := ho2.form (by omega)
  obtain ⟨A3, c3, e3, q3, r3⟩ := Kd.R_reads ho
  rw [e2] at e3
  injection e3 with e31 e32 e33
  subst e31 e33
  subst e2
  have hs2 : w.heap.size + 1 < w2.heap.size := hp_lt hz2
  have HT2 := Aside0.mk (HT.out.below HB2.out HT.out.2)
  clear ho ho2 hb hg hat hb12 HC HO HBB HW0 HZ KR HB1 HCG hsz HB0
  have HDC := Aside0.mk (gobDec_fin (w.heap.size + 1) g2 c2 p m neg E L N w2 hz2 r3 HNL.out (by rw [HNL.out]; exact q3) HCAN.out hp1 hm (by omega))
  rw [← HNL.out]
  clear hz2 r3 q3 hne
  refine (HDC.out).mono ?_
  rintro e w3 ⟨rfl, hk, mb, R, c', hmb, hlR, hF⟩
  obtain ⟨t, ht⟩ := Tz.exists HCAN.out.V_pos
  have htl : t < 64 * L.length := tz_lt ht ⟨Int.le_of_lt HCAN.out.V_pos, (top_range HCAN.out.ok HCAN.out.pos HCAN.out.top).2, .inr (top_range HCAN.out.ok HCAN.out.pos HCAN.out.top).1⟩ HCAN.out.V_pos
  have KR3 := Aside0.mk (hp_kept KR2.out hk (fun h => by have : w.heap.size = w.heap.size + 1 := h; omega))
  have HT3 := Aside0.mk (HT2.out.kept hk (fun h => by have : 2 = w.heap.size + 1 := h; have := HT.out.2; omega))
  have HB3 := Aside0.mk (HB2.out.trans (hk.below (B := w.heap.size) (by intro i h; have : i = w.heap.size + 1 := h; omega) (by omega)))
  have hs3 : w.heap.size < w3.heap.size := hp_lt KR3.out
  have hba := below_alloc (Below.refl w3.heap.size w3) (.cells #[.int .u64 0, .int .i64 0, .int .i64 0, .bool false, .slice none 0 0, .int .i64 0] 28)
  have HBO := Aside0.mk (both_c (w.heap.size + 1) p m 0 1 neg _ _ p m 1 _ _ neg w3 hF.flt (real_c (w.heap.size + 1) mb p m 0 neg c' E L R t _ (hF.below hba) HCAN.out ht (HT3.out.below hba HT3.out.2) htl ⟨hp1.1, by omega⟩ hm hE) (by omega))
  clear hk hmb hlR hF hba KR2 HB2 HT2 HDC ht htl
  go_wp2_with (fail)
  refine (HBO.out).mono ?_
  rintro e w4 ⟨A, mm, cc, rfl, hv, hb4⟩
  obtain ⟨y, hy⟩ : ∃ y, y = E - ((64 * L.length - t : Nat) : Int) := ⟨_, rfl⟩
  rw [← hy]
  have KR4 := Aside0.mk (hp_below KR3.out hb4)
  have HB4 := Aside0.mk (below_step HB3.out hb4)
  have hs4 : w.heap.size < w4.heap.size := hp_lt KR4.out
  obtain ⟨a0, a1, a2, a3, a4, a5, f0, f1, f2, f3, f4, f5⟩ := blk6 KR4.out
  clear hv hb4 hy HBO KR3 HB3 HT3
  go_wp2_with (fail)
  obtain ⟨w5, hw5⟩ : ∃ w5, w5 = (((((w4.setCell ⟨w.heap.size, 0, none⟩ (.int .u64 p)).setCell ⟨w.heap.size, 1, none⟩ (.int .i64 m)).setCell ⟨w.heap.size, 2, none⟩ (.int .i64 1)).setCell ⟨w.heap.size, 3, none⟩ (.bool neg)).setCell ⟨w.heap.size, 4, none⟩ (.slice A mm cc)).setCell ⟨w.heap.size, 5, none⟩ (.int .i64 y) := ⟨_, rfl⟩
  have hk5 : hp w5 w.heap.size = some (.cells #[.int .u64 p, .int .i64 m, .int .i64 1, .bool neg, .slice A mm cc, .int .i64 y] 28 (0, 0)) := by
    rw [hw5, hp_here _ _ _ _ _ rfl, hp_here _ _ _ _ _ rfl, hp_here _ _ _ _ _ rfl, hp_here _ _ _ _ _ rfl, hp_here _ _ _ _ _ rfl, hp_here _ _ _ _ _ rfl, KR4.out]
    rfl
  have hb5 : Below w.heap.size w w5 := by rw [hw5]; exact (((((HB4.out.setCell (by simp) _).setCell (by simp) _).setCell (by simp) _).setCell (by simp) _).setCell (by simp) _).setCell (by simp) _
  rw [← hw5]
  clear hw5 a0 a1 a2 a3 a4 a5 f0 f1 f2 f3 f4 f5
  have hba := below_alloc (Below.refl w5.heap.size w5) (.cells #[.int .u64 p, .int .i64 m, .int .i64 1, .bool neg, .slice A mm cc, .int .i64 y] 28)
  obtain ⟨w6, hw6⟩ : ∃ w6, w6 = w5.alloc (.cells #[.int .u64 p, .int .i64 m, .int .i64 1, .bool neg, .slice A mm cc, .int .i64 y] 28) := ⟨_, rfl⟩
  rw [← hw6] at hba ⊢
  clear hw6
  obtain ⟨r0, r1, r2, r3, r4, r5, _, _, _, _, _, _⟩ := blk6 (hp_below hk5 hba)
  refine bodyPost_ret (v := .tuple #[.agg #[.int .u64 p, .int .i64 m, .int .i64 1, .bool neg, .slice A mm cc, .int .i64 y], .int .i64 0, .bool true]) (by simp [results, Tryd.results30, go_sem, r0, r1, r2, r3, r4, r5]) rfl ?_
  exact ⟨A, mm, cc, y, rfl, hb5.trans (hba.mono hb5.size)⟩
end Go.Proofs.YtglikgjaobedbaaDoor.Sp
