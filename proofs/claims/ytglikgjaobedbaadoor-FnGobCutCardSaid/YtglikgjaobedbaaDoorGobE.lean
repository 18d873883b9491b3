/-
  CONTRACT of Float.GobEncode at a finite value.
-/
import Derived.Test.YtglikgjaobedbaaDoorGobB
namespace Go.Proofs.YtglikgjaobedbaaDoor.Sp
open Go.RowKit Go.Proofs.YtglikgjaobedbaaDoorW.PrintWords Go.Proofs.YtglikgjaobedbaaDoorW.PrintLast Go.Proofs.YtglikgjaobedbaaDoorW.PrintMore Go.Proofs.YtglikgjaobedbaaDoor.Dig
set_option linter.unusedVariables false
set_option linter.unusedSimpArgs false
/-- The bytes of a finite Float. -/
def encF (p : Nat) (m : Int) (neg : Bool) (E : Int) (L : List Int) : List Int := 1 :: gobB m 1 neg :: (be4 p ++ (be4 (E % 4294967296) ++ (le L).reverse))
theorem encF_len (p : Nat) (m : Int) (neg : Bool) (E : Int) (L : List Int) : (encF p m neg E L).length = 10 + 8 * L.length := by
  simp [encF, be4, le_len]
  omega
theorem gob_b1F {m : Int} (hm : 0 ≤ m ∧ m < 6) : Go.bits .or .u8 (Go.bits .or .u8 (IntKind.u8.wrap (Go.bits .and .u8 m 7 * 32)) (IntKind.u8.wrap (IntKind.u8.wrap (Go.bits .and .i8 (IntKind.i8.wrap 1) 3) * 8))) (IntKind.u8.wrap (Go.bits .and .u8 1 3 * 2)) = m * 32 + 8 + 1 * 2 := by
  have h : m = 0 ∨ m = 1 ∨ m = 2 ∨ m = 3 ∨ m = 4 ∨ m = 5 := by omega
  rcases h with rfl | rfl | rfl | rfl | rfl | rfl <;> rfl
theorem gob_b2F {m : Int} (hm : 0 ≤ m ∧ m < 6) : Go.bits .or .u8 (m * 32 + 8 + 1 * 2) 1 = m * 32 + 8 + 1 * 2 + 1 := by
  have h : m = 0 ∨ m = 1 ∨ m = 2 ∨ m = 3 ∨ m = 4 ∨ m = 5 := by omega
  rcases h with rfl | rfl | rfl | rfl | rfl | rfl <;> rfl
set_option maxHeartbeats 6400000 in
set_option maxRecDepth 100000 in
theorem gobEnc_fin (g mb p : Nat) (m : Int) (neg : Bool) (c : Nat) (E : Int) (L R : List Int) (w : World) (h : Flt w g mb p m 0 1 neg L.length c E (L ++ R)) (hc : Canon p L) (hp1 : 1 ≤ p ∧ p ≤ 600000) (hm : 0 ≤ m ∧ m < 6) (hE : -2147483648 ≤ E ∧ E < 2147483648) :
    Calls Tryd.prog 55 #[.pointer (some ⟨g, 0, none⟩)] w fun e w' => ∃ gb S, w.heap.size ≤ gb ∧ S = 10 + 8 * L.length ∧ e = .returned (.tuple #[.slice (some ⟨gb, 0, none⟩) S S, .nilIface]) ∧ hp w' gb = some (.cells (u8s (encF p m neg E L)) 5 (0, 0)) ∧ Below w.heap.size w w' := by
  have hlen := hc.len
  have hl0 := hc.pos
  obtain ⟨S, hS⟩ : ∃ S, S = 10 + 8 * L.length := ⟨_, rfl⟩
  have hmk := make_ints 56 5 .u8 1 Tryd.underlying56 infoU8 (by omega) (S : Int) (S : Int) (by omega) (by omega) (by omega)
  simp only [Int.toNat_natCast, u8s_rep] at hmk
  obtain ⟨c0, c1, c2, c3, c4, c5, c6, f0, f1, f2, f3, f4, f5, f6⟩ := blk7 h.flt
  have lg := hp_lt h.flt
  have H := Aside0.mk h
  have HC := Aside0.mk hc
  have HS := Aside0.mk hS
  have h6 : (6 : Int) + (4 + (L.length : Int) * 8) = (S : Int) := by omega
  have h0p : (0 : Int) ≤ (p : Int) + 63 := by omega
  obtain ⟨Z, hZ⟩ : ∃ Z, Z = List.replicate (8 * L.length) (0 : Int) := ⟨_, rfl⟩
  have hrep : List.replicate S (0 : Int) = [0, 0, 0, 0, 0, 0, 0, 0, 0, 0] ++ Z := by
    rw [hZ, hS, show 10 + 8 * L.length = 8 * L.length + 10 by omega]
    rw [show ([0, 0, 0, 0, 0, 0, 0, 0, 0, 0] : List Int) = List.replicate 10 0 from rfl, List.replicate_append_replicate]
    congr 1
    omega
  have hZl : Z.length = 8 * L.length := by rw [hZ]; simp
  have HZ := Aside0.mk hZ
  have HZL := Aside0.mk hZl
  rw [hrep] at hmk
  have hS1 : ¬ S = 2 := by omega
  have hS2 : 2 ≤ S := by omega
  have hS3 : ¬ S = 6 := by omega
  have hS4 : 6 ≤ S := by omega
  have hS5 : ¬ S = 10 := by omega
  have hS6 : 10 ≤ S := by omega
  have hS7 : 1 < S := by omega
  have hI2 : (2 : Int) ≤ (S : Int) := by omega
  have hI6 : (6 : Int) ≤ (S : Int) := by omega
  have hI10 : (10 : Int) ≤ (S : Int) := by omega
  have hS8 : 0 < S := by omega
  have HLL := Aside0.mk hlen
  clear h hc hS hZ hrep hZl
  go_enter Tryd.func55, Tryd.ntmps55
  go_upto_if 14 with fail
  go_cut [4, 5] (fun v4 v5 wx => v4 = .int .i64 (S : Int) ∧ v5 = .int .i64 (L.length : Int) ∧ w = wx)
  case first => as_aux_lemma =>
    by_cases hlt : (L.length : Int) < ((p : Int) + 63) / 64
    · have hd : decide ((L.length : Int) < ((p : Int) + 63) / 64) = true := decide_eq_true hlt
      go_wp2_with (fail)
      go_meet
      exact ⟨by congr 1, rfl, rfl⟩
    · have hq : ((p : Int) + 63) / 64 = (L.length : Int) := by have := HLL.out; omega
      go_wp2_with (fail)
      go_meet
      exact ⟨by congr 1, rfl, rfl⟩
  case rest =>
  obtain ⟨rfl, rfl, rfl⟩ := hcut
  go_upto_region 11 with (fail)
  obtain ⟨w1, hw1⟩ : ∃ w1, w1 = w.alloc (.cells (u8s (0 :: 0 :: 0 :: 0 :: 0 :: 0 :: 0 :: 0 :: 0 :: 0 :: Z)) 5) := ⟨_, rfl⟩
  have hb1 : Below w.heap.size w w1 := by rw [hw1]; exact below_alloc (Below.refl _ _) _
  have hg1 : hp w1 w.heap.size = some (.cells (u8s ([0, 0, 0, 0, 0, 0, 0, 0, 0, 0] ++ Z)) 5 (0, 0)) := by rw [hw1]; exact hp_new _ _ _ rfl
  rw [← hw1]
  clear hw1 hmk c0 c1 c2 c3 c4 c5 c6 f0 f1 f2 f3 f4 f5 f6
  have HF1 := Aside0.mk (H.out.below hb1)
  obtain ⟨c0, c1, c2, c3, c4, c5, c6, f0, f1, f2, f3, f4, f5, f6⟩ := blk7 HF1.out.flt
  have lg1 := hp_lt HF1.out.flt
  have d0 : w1.cell? ⟨w.heap.size, 0, none⟩ = some (.int .u8 0) := (blk_cell hg1 0).trans (u8s_get _ 0 (by simp))
  have e0 : w1.frozen? ⟨w.heap.size, 0, none⟩ = false := blk_frozen hg1 0
  have lb1 := hp_lt hg1
  have HB1 := Aside0.mk hb1
  have HG1 := Aside0.mk hg1
  clear hb1 hg1
  go_upto_region 12 with (fail)
  obtain ⟨w2, hw2⟩ : ∃ w2, w2 = w1.setCell ⟨w.heap.size, 0, none⟩ (.int .u8 1) := ⟨_, rfl⟩
  have hb2 : Below w.heap.size w w2 := by rw [hw2]; exact HB1.out.setCell (p := ⟨w.heap.size, 0, none⟩) (Nat.le_refl _) _
  have hg2 : hp w2 w.heap.size = some (.cells (u8s ([1, 0, 0, 0, 0, 0, 0, 0, 0, 0] ++ Z)) 5 (0, 0)) := by
    rw [hw2, hp_here _ _ _ _ _ rfl, HG1.out]
    simp only [Option.map_some, setObj_cells, u8s_set]
    rfl
  rw [← hw2]
  clear hw2 d0 e0 HB1 HG1 HF1 c0 c1 c2 c3 c4 c5 c6 f0 f1 f2 f3 f4 f5 f6
  have HF2 := Aside0.mk (H.out.below hb2)
  obtain ⟨c0, c1, c2, c3, c4, c5, c6, f0, f1, f2, f3, f4, f5, f6⟩ := blk7 HF2.out.flt
  have lg2 := hp_lt HF2.out.flt
  refine start_ (n := 23) (S := fun w' => w'.cell? ⟨g, 1, none⟩ = some (.int .u8 m) ∧ w'.cell? ⟨g, 2, none⟩ = some (.int .i8 0) ∧ w'.cell? ⟨g, 3, none⟩ = some (.int .u8 1)) (ds := []) #[false, false, false, false, false, false, false, false, false, false, false, false, false, false, false, false, false, false, false, false, false, false, false] (by kernel_rfl) rfl rfl ⟨(by go_simp), (by go_simp), (by go_simp)⟩ (fun hHeld => ?_)
  refine pure_ (i := 0) (N := some 43) (v := ?_) (a' := ?_) #[true, false, false, false, false, false, false, false, false, false, false, false, false, false, false, false, false, false, false, false, false, false, false] rfl rfl (by kernel_rfl) (fun _ _ _ h => h) (Or.inl ⟨by rfl, ?_⟩) ?_ ?_
  rotate_left
  · intro w'
    go_simp
    with_reducible rfl
  rotate_left
  · simp only [Act.put, List.setIfInBounds_toArray, List.set_cons_zero, List.set_cons_succ, i64_w, i32_w]
    rfl
  refine pure_ (i := 1) (N := some 44) (v := ?_) (a' := ?_) #[true, true, false, false, false, false, false, false, false, false, false, false, false, false, false, false, false, false, false, false, false, false, false] rfl rfl (by kernel_rfl) (fun _ _ _ h => h) (Or.inl ⟨by rfl, ?_⟩) ?_ ?_
  rotate_left
  · intro w'
    go_simp
    with_reducible rfl
  rotate_left
  · simp only [Act.put, List.setIfInBounds_toArray, List.set_cons_zero, List.set_cons_succ, i64_w, i32_w]
    rfl
  refine pure_ (i := 2) (N := some 45) (v := ?_) (a' := ?_) #[true, true, true, false, false, false, false, false, false, false, false, false, false, false, false, false, false, false, false, false, false, false, false] rfl rfl (by kernel_rfl) (fun _ _ _ h => h) (Or.inl ⟨by rfl, ?_⟩) ?_ ?_
  rotate_left
  · intro w'
    go_simp
    with_reducible rfl
  rotate_left
  · simp only [Act.put, List.setIfInBounds_toArray, List.set_cons_zero, List.set_cons_succ, i64_w, i32_w]
    rfl
  refine pure_ (i := 6) (N := some 49) (v := ?_) (a' := ?_) #[true, true, true, false, false, false, true, false, false, false, false, false, false, false, false, false, false, false, false, false, false, false, false] rfl rfl (by kernel_rfl) (fun _ _ _ h => h) (Or.inl ⟨by rfl, ?_⟩) ?_ ?_
  rotate_left
  · intro w'
    go_simp
    with_reducible rfl
  rotate_left
  · simp only [Act.put, List.setIfInBounds_toArray, List.set_cons_zero, List.set_cons_succ, i64_w, i32_w]
    rfl
  refine pure_ (i := 7) (N := some 50) (v := ?_) (a' := ?_) #[true, true, true, false, false, false, true, true, false, false, false, false, false, false, false, false, false, false, false, false, false, false, false] rfl rfl (by kernel_rfl) (fun _ _ _ h => h) (Or.inl ⟨by rfl, ?_⟩) ?_ ?_
  rotate_left
  · intro w'
    go_simp
    with_reducible rfl
  rotate_left
  · simp only [Act.put, List.setIfInBounds_toArray, List.set_cons_zero, List.set_cons_succ, i64_w, i32_w]
    rfl
  refine pure_ (i := 8) (N := some 51) (v := ?_) (a' := ?_) #[true, true, true, false, false, false, true, true, true, false, false, false, false, false, false, false, false, false, false, false, false, false, false] rfl rfl (by kernel_rfl) (fun _ _ _ h => h) (Or.inl ⟨by rfl, ?_⟩) ?_ ?_
  rotate_left
  · intro w'
    go_simp
    with_reducible rfl
  rotate_left
  · simp only [Act.put, List.setIfInBounds_toArray, List.set_cons_zero, List.set_cons_succ, i64_w, i32_w]
    rfl
  refine pure_ (i := 15) (N := some 58) (v := ?_) (a' := ?_) #[true, true, true, false, false, false, true, true, true, false, false, false, false, false, false, true, false, false, false, false, false, false, false] rfl rfl (by kernel_rfl) (fun _ _ _ h => h) (Or.inl ⟨by rfl, ?_⟩) ?_ ?_
  rotate_left
  · intro w'
    go_simp
    with_reducible rfl
  rotate_left
  · simp only [Act.put, List.setIfInBounds_toArray, List.set_cons_zero, List.set_cons_succ, i64_w, i32_w]
    rfl
  refine pure_ (i := 16) (N := some 59) (v := ?_) (a' := ?_) #[true, true, true, false, false, false, true, true, true, false, false, false, false, false, false, true, true, false, false, false, false, false, false] rfl rfl (by kernel_rfl) (fun _ _ _ h => h) (Or.inl ⟨by rfl, ?_⟩) ?_ ?_
  rotate_left
  · intro w'
    go_simp
    with_reducible rfl
  rotate_left
  · simp only [Act.put, List.setIfInBounds_toArray, List.set_cons_zero, List.set_cons_succ, i64_w, i32_w]
    rfl
  refine pure_ (i := 17) (N := some 60) (v := ?_) (a' := ?_) #[true, true, true, false, false, false, true, true, true, false, false, false, false, false, false, true, true, true, false, false, false, false, false] rfl rfl (by kernel_rfl) (fun _ _ _ h => h) (Or.inl ⟨by rfl, ?_⟩) ?_ ?_
  rotate_left
  · intro w'
    go_simp
    with_reducible rfl
  rotate_left
  · simp only [Act.put, List.setIfInBounds_toArray, List.set_cons_zero, List.set_cons_succ, i64_w, i32_w]
    rfl
  refine take_ (i := 3) (N := some 46) (v := ?_) (a' := ?_) #[true, true, true, true, false, false, true, true, true, false, false, false, false, false, false, true, true, true, false, false, false, false, false] rfl rfl (by kernel_rfl) (fun _ _ _ h => h) (Or.inl ⟨by rfl, ?_⟩) hHeld ?_ ?_
  rotate_left
  · rintro w' ⟨s0, s1, s2⟩
    go_simp
    with_reducible rfl
  rotate_left
  · simp only [Act.put, List.setIfInBounds_toArray, List.set_cons_zero, List.set_cons_succ, i64_w, i32_w]
    rfl
  refine pure_ (i := 4) (N := some 47) (v := ?_) (a' := ?_) #[true, true, true, true, true, false, true, true, true, false, false, false, false, false, false, true, true, true, false, false, false, false, false] rfl rfl (by kernel_rfl) (fun _ _ _ h => h) (Or.inl ⟨by rfl, ?_⟩) ?_ ?_
  rotate_left
  · intro w'
    go_simp
    with_reducible rfl
  rotate_left
  · simp only [Act.put, List.setIfInBounds_toArray, List.set_cons_zero, List.set_cons_succ, i64_w, i32_w]
    rfl
  refine pure_ (i := 5) (N := some 48) (v := ?_) (a' := ?_) #[true, true, true, true, true, true, true, true, true, false, false, false, false, false, false, true, true, true, false, false, false, false, false] rfl rfl (by kernel_rfl) (fun _ _ _ h => h) (Or.inl ⟨by rfl, ?_⟩) ?_ ?_
  rotate_left
  · intro w'
    go_simp
    with_reducible rfl
  rotate_left
  · simp only [Act.put, List.setIfInBounds_toArray, List.set_cons_zero, List.set_cons_succ, i64_w, i32_w]
    rfl
  refine take_ (i := 9) (N := some 52) (v := ?_) (a' := ?_) #[true, true, true, true, true, true, true, true, true, true, false, false, false, false, false, true, true, true, false, false, false, false, false] rfl rfl (by kernel_rfl) (fun _ _ _ h => h) (Or.inl ⟨by rfl, ?_⟩) hHeld ?_ ?_
  rotate_left
  · rintro w' ⟨s0, s1, s2⟩
    go_simp
    with_reducible rfl
  rotate_left
  · simp only [Act.put, List.setIfInBounds_toArray, List.set_cons_zero, List.set_cons_succ, i64_w, i32_w]
    rfl
  refine pure_ (i := 10) (N := some 53) (v := ?_) (a' := ?_) #[true, true, true, true, true, true, true, true, true, true, true, false, false, false, false, true, true, true, false, false, false, false, false] rfl rfl (by kernel_rfl) (fun _ _ _ h => h) (Or.inl ⟨by rfl, ?_⟩) ?_ ?_
  rotate_left
  · intro w'
    go_simp
    with_reducible rfl
  rotate_left
  · simp only [Act.put, List.setIfInBounds_toArray, List.set_cons_zero, List.set_cons_succ, i64_w, i32_w]
    rfl
  refine pure_ (i := 11) (N := some 54) (v := ?_) (a' := ?_) #[true, true, true, true, true, true, true, true, true, true, true, true, false, false, false, true, true, true, false, false, false, false, false] rfl rfl (by kernel_rfl) (fun _ _ _ h => h) (Or.inl ⟨by rfl, ?_⟩) ?_ ?_
  rotate_left
  · intro w'
    go_simp
    with_reducible rfl
  rotate_left
  · simp only [Act.put, List.setIfInBounds_toArray, List.set_cons_zero, List.set_cons_succ, i64_w, i32_w]
    rfl
  refine pure_ (i := 12) (N := some 55) (v := ?_) (a' := ?_) #[true, true, true, true, true, true, true, true, true, true, true, true, true, false, false, true, true, true, false, false, false, false, false] rfl rfl (by kernel_rfl) (fun _ _ _ h => h) (Or.inl ⟨by rfl, ?_⟩) ?_ ?_
  rotate_left
  · intro w'
    go_simp
    with_reducible rfl
  rotate_left
  · simp only [Act.put, List.setIfInBounds_toArray, List.set_cons_zero, List.set_cons_succ, i64_w, i32_w]
    rfl
  refine pure_ (i := 13) (N := some 56) (v := ?_) (a' := ?_) #[true, true, true, true, true, true, true, true, true, true, true, true, true, true, false, true, true, true, false, false, false, false, false] rfl rfl (by kernel_rfl) (fun _ _ _ h => h) (Or.inl ⟨by rfl, ?_⟩) ?_ ?_
  rotate_left
  · intro w'
    go_simp
    with_reducible rfl
  rotate_left
  · simp only [Act.put, List.setIfInBounds_toArray, List.set_cons_zero, List.set_cons_succ, i64_w, i32_w]
    rfl
  refine pure_ (i := 14) (N := some 57) (v := ?_) (a' := ?_) #[true, true, true, true, true, true, true, true, true, true, true, true, true, true, true, true, true, true, false, false, false, false, false] rfl rfl (by kernel_rfl) (fun _ _ _ h => h) (Or.inl ⟨by rfl, ?_⟩) ?_ ?_
  rotate_left
  · intro w'
    go_simp
    with_reducible rfl
  rotate_left
  · simp only [Act.put, List.setIfInBounds_toArray, List.set_cons_zero, List.set_cons_succ, i64_w, i32_w]
    rfl
  refine take_ (i := 18) (N := some 61) (v := ?_) (a' := ?_) #[true, true, true, true, true, true, true, true, true, true, true, true, true, true, true, true, true, true, true, false, false, false, false] rfl rfl (by kernel_rfl) (fun _ _ _ h => h) (Or.inl ⟨by rfl, ?_⟩) hHeld ?_ ?_
  rotate_left
  · rintro w' ⟨s0, s1, s2⟩
    go_simp
    with_reducible rfl
  rotate_left
  · simp only [Act.put, List.setIfInBounds_toArray, List.set_cons_zero, List.set_cons_succ, i64_w, i32_w]
    rfl
  refine pure_ (i := 19) (N := some 62) (v := ?_) (a' := ?_) #[true, true, true, true, true, true, true, true, true, true, true, true, true, true, true, true, true, true, true, true, false, false, false] rfl rfl (by kernel_rfl) (fun _ _ _ h => h) (Or.inl ⟨by rfl, ?_⟩) ?_ ?_
  rotate_left
  · intro w'
    go_simp
    with_reducible rfl
  rotate_left
  · simp only [Act.put, List.setIfInBounds_toArray, List.set_cons_zero, List.set_cons_succ, i64_w, i32_w]
    rfl
  refine pure_ (i := 20) (N := some 63) (v := ?_) (a' := ?_) #[true, true, true, true, true, true, true, true, true, true, true, true, true, true, true, true, true, true, true, true, true, false, false] rfl rfl (by kernel_rfl) (fun _ _ _ h => h) (Or.inl ⟨by rfl, ?_⟩) ?_ ?_
  rotate_left
  · intro w'
    go_simp
    with_reducible rfl
  rotate_left
  · simp only [Act.put, List.setIfInBounds_toArray, List.set_cons_zero, List.set_cons_succ, i64_w, i32_w]
    rfl
  refine pure_ (i := 21) (N := some 64) (v := ?_) (a' := ?_) #[true, true, true, true, true, true, true, true, true, true, true, true, true, true, true, true, true, true, true, true, true, true, false] rfl rfl (by kernel_rfl) (fun _ _ _ h => h) (Or.inl ⟨by rfl, ?_⟩) ?_ ?_
  rotate_left
  · intro w'
    go_simp
    with_reducible rfl
  rotate_left
  · simp only [Act.put, List.setIfInBounds_toArray, List.set_cons_zero, List.set_cons_succ, i64_w, i32_w]
    rfl
  refine pure_ (i := 22) (N := some 7) (v := ?_) (a' := ?_) #[true, true, true, true, true, true, true, true, true, true, true, true, true, true, true, true, true, true, true, true, true, true, true] rfl rfl (by kernel_rfl) (fun _ _ _ h => h) (Or.inl ⟨by rfl, ?_⟩) ?_ ?_
  rotate_left
  · intro w'
    go_simp
    with_reducible rfl
  rotate_left
  · simp only [Act.put, List.setIfInBounds_toArray, List.set_cons_zero, List.set_cons_succ, i64_w, i32_w]
    rfl
  refine done_ (by kernel_rfl) ?_
  rw [gob_b1F hm]
  have hbb := gob_b2F hm
  have HB2 := Aside0.mk hb2
  have HG2 := Aside0.mk hg2
  obtain ⟨b, hb⟩ : ∃ b, b = m * 32 + 8 + 1 * 2 := ⟨_, rfl⟩
  rw [← hb] at hbb ⊢
  obtain ⟨B, hBB⟩ : ∃ B, B = gobB m 1 neg := ⟨_, rfl⟩
  have HBQ : Aside0 (B = b + (if neg then 1 else 0)) := ⟨by rw [hBB, hb]; rfl⟩
  have HBB := Aside0.mk hBB
  have d1 : w2.cell? ⟨w.heap.size, 1, none⟩ = some (.int .u8 0) := (blk_cell hg2 1).trans (u8s_get _ 1 (by simp))
  have e1 : w2.frozen? ⟨w.heap.size, 1, none⟩ = false := blk_frozen hg2 1
  have lb2 := hp_lt hg2
  clear hb hBB hb2 hg2
  go_upto_if 68 with fail
  obtain ⟨w3, hw3⟩ : ∃ w3, w3 = w2.drew := ⟨_, rfl⟩
  have HB3 : Aside0 (Below w.heap.size w w3) := ⟨by rw [hw3]; exact HB2.out.drew⟩
  have HG3 : Aside0 (hp w3 w.heap.size = some (.cells (u8s ([1, 0, 0, 0, 0, 0, 0, 0, 0, 0] ++ Z)) 5 (0, 0))) := ⟨by rw [hw3, hp_drew]; exact HG2.out⟩
  rw [← hw3]
  clear hw3 d1 e1 HB2 HG2 HF2 c0 c1 c2 c3 c4 c5 c6 f0 f1 f2 f3 f4 f5 f6
  have HF3 := Aside0.mk (H.out.below HB3.out)
  obtain ⟨c0, c1, c2, c3, c4, c5, c6, f0, f1, f2, f3, f4, f5, f6⟩ := blk7 HF3.out.flt
  have lg3 := hp_lt HF3.out.flt
  go_cut [7] (fun v wx => v = .int .u8 B ∧ w3 = wx)
  case first => as_aux_lemma =>
    cases neg with
    | false =>
      go_wp2_with (fail)
      go_meet
      exact ⟨by rw [HBQ.out]; simp, rfl⟩
    | true =>
      go_wp2_with (fail)
      go_meet
      exact ⟨by rw [HBQ.out]; simp, rfl⟩
  case rest =>
  obtain ⟨rfl, rfl⟩ := hcut
  have d1 : w3.cell? ⟨w.heap.size, 1, none⟩ = some (.int .u8 0) := (blk_cell HG3.out 1).trans (u8s_get _ 1 (by simp))
  have e1 : w3.frozen? ⟨w.heap.size, 1, none⟩ = false := blk_frozen HG3.out 1
  have lb3 := hp_lt HG3.out
  go_upto_region 16 with (fail)
  obtain ⟨w4, hw4⟩ : ∃ w4, w4 = w3.setCell ⟨w.heap.size, 1, none⟩ (.int .u8 B) := ⟨_, rfl⟩
  have HB4 : Aside0 (Below w.heap.size w w4) := ⟨by rw [hw4]; exact HB3.out.setCell (p := ⟨w.heap.size, 1, none⟩) (Nat.le_refl _) _⟩
  have HG4 : Aside0 (hp w4 w.heap.size = some (.cells (u8s ([1, B, 0, 0, 0, 0, 0, 0, 0, 0] ++ Z)) 5 (0, 0))) := ⟨by
    rw [hw4, hp_here _ _ _ _ _ rfl, HG3.out]
    simp only [Option.map_some, setObj_cells, u8s_set]
    rfl⟩
  rw [← hw4]
  clear hw4 d1 e1 HB3 HG3 HF3 c0 c1 c2 c3 c4 c5 c6 f0 f1 f2 f3 f4 f5 f6
  have HF4 := Aside0.mk (H.out.below HB4.out)
  obtain ⟨c0, c1, c2, c3, c4, c5, c6, f0, f1, f2, f3, f4, f5, f6⟩ := blk7 HF4.out.flt
  have lg4 := hp_lt HF4.out.flt
  have lb4 := hp_lt HG4.out
  refine start_ (n := 7) (S := fun w' => w'.cell? ⟨g, 0, none⟩ = some (.int .u32 p)) (ds := []) #[false, false, false, false, false, false, false] (by kernel_rfl) rfl rfl ((by go_simp)) (fun hHeld => ?_)
  refine pure_ (i := 0) (N := some 74) (v := ?_) (a' := ?_) #[true, false, false, false, false, false, false] rfl rfl (by kernel_rfl) (fun _ _ _ h => h) (Or.inl ⟨by rfl, ?_⟩) ?_ ?_
  rotate_left
  · intro w'
    go_simp
    with_reducible rfl
  rotate_left
  · simp only [Act.put, List.setIfInBounds_toArray, List.set_cons_zero, List.set_cons_succ, i64_w, i32_w]
    rfl
  refine pure_ (i := 1) (N := some 75) (v := ?_) (a' := ?_) #[true, true, false, false, false, false, false] rfl rfl (by kernel_rfl) (fun _ _ _ h => h) (Or.inl ⟨by rfl, ?_⟩) ?_ ?_
  rotate_left
  · intro w'
    go_simp
    with_reducible rfl
  rotate_left
  · simp only [Act.put, List.setIfInBounds_toArray, List.set_cons_zero, List.set_cons_succ, i64_w, i32_w]
    rfl
  refine pure_ (i := 2) (N := some 76) (v := ?_) (a' := ?_) #[true, true, true, false, false, false, false] rfl rfl (by kernel_rfl) (fun _ _ _ h => h) (Or.inl ⟨by rfl, ?_⟩) ?_ ?_
  rotate_left
  · intro w'
    go_simp
    with_reducible rfl
  rotate_left
  · simp only [Act.put, List.setIfInBounds_toArray, List.set_cons_zero, List.set_cons_succ, i64_w, i32_w]
    rfl
  refine pure_ (i := 3) (N := some 77) (v := ?_) (a' := ?_) #[true, true, true, true, false, false, false] rfl rfl (by kernel_rfl) (fun _ _ _ h => h) (Or.inl ⟨by rfl, ?_⟩) ?_ ?_
  rotate_left
  · intro w'
    go_simp
    with_reducible rfl
  rotate_left
  · simp only [Act.put, List.setIfInBounds_toArray, List.set_cons_zero, List.set_cons_succ, i64_w, i32_w]
    rfl
  refine pure_ (i := 4) (N := some 78) (v := ?_) (a' := ?_) #[true, true, true, true, true, false, false] rfl rfl (by kernel_rfl) (fun _ _ _ h => h) (Or.inl ⟨by rfl, ?_⟩) ?_ ?_
  rotate_left
  · intro w'
    go_simp
    with_reducible rfl
  rotate_left
  · simp only [Act.put, List.setIfInBounds_toArray, List.set_cons_zero, List.set_cons_succ, i64_w, i32_w]
    rfl
  refine take_ (i := 5) (N := some 79) (v := ?_) (a' := ?_) #[true, true, true, true, true, true, false] rfl rfl (by kernel_rfl) (fun _ _ _ h => h) (Or.inl ⟨by rfl, ?_⟩) hHeld ?_ ?_
  rotate_left
  · intro w' s0
    go_simp
    with_reducible rfl
  rotate_left
  · simp only [Act.put, List.setIfInBounds_toArray, List.set_cons_zero, List.set_cons_succ, i64_w, i32_w]
    rfl
  refine one_ (i := 6) (N := some 80) #[true, true, true, true, true, true, true] rfl rfl (by kernel_rfl) (by decide) (fun K hK => ?_)
  refine goes_ Tryd.func82 (by kernel_rfl) rfl #[.slice (some ⟨w.heap.size, 2, none⟩) (S - 2) (S - 2), .int .u32 p] (by rfl) rfl rfl (by simp only [List.map_toArray, List.map_cons, List.map_nil]; rfl) ?_
  with_reducible refine (put32_n w.heap.size 2 (S - 2) (S - 2) (by omega) ([1, B, 0, 0, 0, 0, 0, 0, 0, 0] ++ Z) 5 p w _ HB4.out.drew (Nat.le_refl _) (by rw [hp_drew]; exact HG4.out) (by simp) (by omega)).mono ?_
  rintro e w5 ⟨rfl, hg5, hb5⟩
  refine ⟨_, rfl, ?_⟩
  have HG5 : Aside0 (hp w5 w.heap.size = some (.cells (u8s (1 :: B :: (be4 p ++ ([0, 0, 0, 0] ++ Z)))) 5 (0, 0))) := ⟨hg5⟩
  have HB5 := Aside0.mk hb5
  have HF5 := Aside0.mk (H.out.below hb5)
  obtain ⟨q0, q1, q2, q3, q4, q5, q6, r0, r1, r2, r3, r4, r5, r6⟩ := blk7 HF5.out.flt
  have lg5 := hp_lt HF5.out.flt
  have lb5 := hp_lt HG5.out
  clear hg5 hb5 HG4 HB4 HF4 c0 c1 c2 c3 c4 c5 c6 f0 f1 f2 f3 f4 f5 f6
  refine hK.out _ _ (q0) (fun hHeld => ?_)
  clear hK K
  refine norm_ (a' := ?_) ?_ ?_
  rotate_left
  · show Act.put _ (some 80) _ = _
    simp only [Act.put, List.setIfInBounds_toArray, List.set_cons_zero, List.set_cons_succ, i64_w, i32_w]
    rfl
  refine done_ (by kernel_rfl) ?_
  have hEw : IntKind.u32.wrap E = E % 4294967296 := by rw [IntKind.wrap_u32']
  go_upto_region 18 with (fail)
  refine start_ (n := 8) (S := fun w' => w'.cell? ⟨g, 6, none⟩ = some (.int .i32 E)) (ds := []) #[false, false, false, false, false, false, false, false] (by kernel_rfl) rfl rfl ((by go_simp)) (fun hHeld => ?_)
  refine pure_ (i := 0) (N := some 86) (v := ?_) (a' := ?_) #[true, false, false, false, false, false, false, false] rfl rfl (by kernel_rfl) (fun _ _ _ h => h) (Or.inl ⟨by rfl, ?_⟩) ?_ ?_
  rotate_left
  · intro w'
    go_simp
    with_reducible rfl
  rotate_left
  · simp only [Act.put, List.setIfInBounds_toArray, List.set_cons_zero, List.set_cons_succ, i64_w, i32_w]
    rfl
  refine pure_ (i := 1) (N := some 87) (v := ?_) (a' := ?_) #[true, true, false, false, false, false, false, false] rfl rfl (by kernel_rfl) (fun _ _ _ h => h) (Or.inl ⟨by rfl, ?_⟩) ?_ ?_
  rotate_left
  · intro w'
    go_simp
    with_reducible rfl
  rotate_left
  · simp only [Act.put, List.setIfInBounds_toArray, List.set_cons_zero, List.set_cons_succ, i64_w, i32_w]
    rfl
  refine pure_ (i := 2) (N := some 88) (v := ?_) (a' := ?_) #[true, true, true, false, false, false, false, false] rfl rfl (by kernel_rfl) (fun _ _ _ h => h) (Or.inl ⟨by rfl, ?_⟩) ?_ ?_
  rotate_left
  · intro w'
    go_simp
    with_reducible rfl
  rotate_left
  · simp only [Act.put, List.setIfInBounds_toArray, List.set_cons_zero, List.set_cons_succ, i64_w, i32_w]
    rfl
  refine pure_ (i := 3) (N := some 89) (v := ?_) (a' := ?_) #[true, true, true, true, false, false, false, false] rfl rfl (by kernel_rfl) (fun _ _ _ h => h) (Or.inl ⟨by rfl, ?_⟩) ?_ ?_
  rotate_left
  · intro w'
    go_simp
    with_reducible rfl
  rotate_left
  · simp only [Act.put, List.setIfInBounds_toArray, List.set_cons_zero, List.set_cons_succ, i64_w, i32_w]
    rfl
  refine pure_ (i := 4) (N := some 90) (v := ?_) (a' := ?_) #[true, true, true, true, true, false, false, false] rfl rfl (by kernel_rfl) (fun _ _ _ h => h) (Or.inl ⟨by rfl, ?_⟩) ?_ ?_
  rotate_left
  · intro w'
    go_simp
    with_reducible rfl
  rotate_left
  · simp only [Act.put, List.setIfInBounds_toArray, List.set_cons_zero, List.set_cons_succ, i64_w, i32_w]
    rfl
  refine take_ (i := 5) (N := some 91) (v := ?_) (a' := ?_) #[true, true, true, true, true, true, false, false] rfl rfl (by kernel_rfl) (fun _ _ _ h => h) (Or.inl ⟨by rfl, ?_⟩) hHeld ?_ ?_
  rotate_left
  · intro w' s0
    go_simp
    with_reducible rfl
  rotate_left
  · simp only [Act.put, List.setIfInBounds_toArray, List.set_cons_zero, List.set_cons_succ, i64_w, i32_w]
    rfl
  refine pure_ (i := 6) (N := some 92) (v := ?_) (a' := ?_) #[true, true, true, true, true, true, true, false] rfl rfl (by kernel_rfl) (fun _ _ _ h => h) (Or.inl ⟨by rfl, ?_⟩) ?_ ?_
  rotate_left
  · intro w'
    go_simp
    with_reducible rfl
  rotate_left
  · simp only [Act.put, List.setIfInBounds_toArray, List.set_cons_zero, List.set_cons_succ, i64_w, i32_w]
    rfl
  refine one_ (i := 7) (N := some 93) #[true, true, true, true, true, true, true, true] rfl rfl (by kernel_rfl) (by decide) (fun K hK => ?_)
  refine goes_ Tryd.func82 (by kernel_rfl) rfl #[.slice (some ⟨w.heap.size, 6, none⟩) (S - 6) (S - 6), .int .u32 (E % 4294967296)] (by rfl) rfl rfl (by simp only [List.map_toArray, List.map_cons, List.map_nil]; rfl) ?_
  with_reducible refine (put32_n w.heap.size 6 (S - 6) (S - 6) (by omega) (1 :: B :: (be4 p ++ ([0, 0, 0, 0] ++ Z))) 5 (E % 4294967296) w _ HB5.out.drew (Nat.le_refl _) (by rw [hp_drew]; exact HG5.out) (by simp [be4]) (by omega)).mono ?_
  rintro e w6 ⟨rfl, hg6, hb6⟩
  refine ⟨_, rfl, ?_⟩
  have HG6 : Aside0 (hp w6 w.heap.size = some (.cells (u8s ((1 :: B :: (be4 p ++ be4 (E % 4294967296))) ++ Z)) 5 (0, 0))) := ⟨hg6⟩
  have HB6 := Aside0.mk hb6
  have HF6 := Aside0.mk (H.out.below hb6)
  clear q0 q1 q2 q3 q4 q5 q6 r0 r1 r2 r3 r4 r5 r6
  obtain ⟨q0, q1, q2, q3, q4, q5, q6, r0, r1, r2, r3, r4, r5, r6⟩ := blk7 HF6.out.flt
  have lg6 := hp_lt HF6.out.flt
  have lb6 := hp_lt HG6.out
  clear hg6 hb6 HG5 HB5 HF5
  refine hK.out _ _ (q6) (fun hHeld => ?_)
  clear hK K
  refine norm_ (a' := ?_) ?_ ?_
  rotate_left
  · show Act.put _ (some 93) _ = _
    simp only [Act.put, List.setIfInBounds_toArray, List.set_cons_zero, List.set_cons_succ, i64_w, i32_w]
    rfl
  refine done_ (by kernel_rfl) ?_
  have hCw := H.out.C
  rw [List.take_left' rfl] at hCw
  have HWS := Aside0.mk (show Ws w (.slice (some ⟨mb, 0, none⟩) L.length c) L from ⟨_, _, rfl, H.out.lec, hCw, (okd_append.1 H.out.ok).1⟩)
  have hsub : IntKind.i64.wrap ((L.length : Int) - (L.length : Int)) = 0 := by rw [Int.sub_self]; rfl
  have hz0 : wrap64 0 = 0 := w64 (by omega) (by omega)
  have hc0 : ¬ c = 0 := by have := H.out.lec; omega
  clear hCw
  go_upto_region 19 with (fail)
  refine start_ (n := 15) (S := fun w' => w'.cell? ⟨g, 5, none⟩ = some (.slice (some ⟨mb, 0, none⟩) L.length c)) (ds := []) #[false, false, false, false, false, false, false, false, false, false, false, false, false, false, false] (by kernel_rfl) rfl rfl ((by go_simp)) (fun hHeld => ?_)
  refine pure_ (i := 0) (N := some 94) (v := ?_) (a' := ?_) #[true, false, false, false, false, false, false, false, false, false, false, false, false, false, false] rfl rfl (by kernel_rfl) (fun _ _ _ h => h) (Or.inl ⟨by rfl, ?_⟩) ?_ ?_
  rotate_left
  · intro w'
    go_simp
    with_reducible rfl
  rotate_left
  · simp only [Act.put, List.setIfInBounds_toArray, List.set_cons_zero, List.set_cons_succ, i64_w, i32_w]
    rfl
  refine pure_ (i := 1) (N := some 95) (v := ?_) (a' := ?_) #[true, true, false, false, false, false, false, false, false, false, false, false, false, false, false] rfl rfl (by kernel_rfl) (fun _ _ _ h => h) (Or.inl ⟨by rfl, ?_⟩) ?_ ?_
  rotate_left
  · intro w'
    go_simp
    with_reducible rfl
  rotate_left
  · simp only [Act.put, List.setIfInBounds_toArray, List.set_cons_zero, List.set_cons_succ, i64_w, i32_w]
    rfl
  refine pure_ (i := 2) (N := some 96) (v := ?_) (a' := ?_) #[true, true, true, false, false, false, false, false, false, false, false, false, false, false, false] rfl rfl (by kernel_rfl) (fun _ _ _ h => h) (Or.inl ⟨by rfl, ?_⟩) ?_ ?_
  rotate_left
  · intro w'
    go_simp
    with_reducible rfl
  rotate_left
  · simp only [Act.put, List.setIfInBounds_toArray, List.set_cons_zero, List.set_cons_succ, i64_w, i32_w]
    rfl
  refine pure_ (i := 4) (N := some 98) (v := ?_) (a' := ?_) #[true, true, true, false, true, false, false, false, false, false, false, false, false, false, false] rfl rfl (by kernel_rfl) (fun _ _ _ h => h) (Or.inl ⟨by rfl, ?_⟩) ?_ ?_
  rotate_left
  · intro w'
    go_simp
    with_reducible rfl
  rotate_left
  · simp only [Act.put, List.setIfInBounds_toArray, List.set_cons_zero, List.set_cons_succ, i64_w, i32_w]
    rfl
  refine pure_ (i := 5) (N := some 99) (v := ?_) (a' := ?_) #[true, true, true, false, true, true, false, false, false, false, false, false, false, false, false] rfl rfl (by kernel_rfl) (fun _ _ _ h => h) (Or.inl ⟨by rfl, ?_⟩) ?_ ?_
  rotate_left
  · intro w'
    go_simp
    with_reducible rfl
  rotate_left
  · simp only [Act.put, List.setIfInBounds_toArray, List.set_cons_zero, List.set_cons_succ, i64_w, i32_w]
    rfl
  refine pure_ (i := 6) (N := some 100) (v := ?_) (a' := ?_) #[true, true, true, false, true, true, true, false, false, false, false, false, false, false, false] rfl rfl (by kernel_rfl) (fun _ _ _ h => h) (Or.inl ⟨by rfl, ?_⟩) ?_ ?_
  rotate_left
  · intro w'
    go_simp
    with_reducible rfl
  rotate_left
  · simp only [Act.put, List.setIfInBounds_toArray, List.set_cons_zero, List.set_cons_succ, i64_w, i32_w]
    rfl
  refine pure_ (i := 9) (N := some 103) (v := ?_) (a' := ?_) #[true, true, true, false, true, true, true, false, false, true, false, false, false, false, false] rfl rfl (by kernel_rfl) (fun _ _ _ h => h) (Or.inl ⟨by rfl, ?_⟩) ?_ ?_
  rotate_left
  · intro w'
    go_simp
    with_reducible rfl
  rotate_left
  · simp only [Act.put, List.setIfInBounds_toArray, List.set_cons_zero, List.set_cons_succ, i64_w, i32_w]
    rfl
  refine pure_ (i := 12) (N := some 106) (v := ?_) (a' := ?_) #[true, true, true, false, true, true, true, false, false, true, false, false, true, false, false] rfl rfl (by kernel_rfl) (fun _ _ _ h => h) (Or.inl ⟨by rfl, ?_⟩) ?_ ?_
  rotate_left
  · intro w'
    go_simp
    with_reducible rfl
  rotate_left
  · simp only [Act.put, List.setIfInBounds_toArray, List.set_cons_zero, List.set_cons_succ, i64_w, i32_w]
    rfl
  refine pure_ (i := 13) (N := some 107) (v := ?_) (a' := ?_) #[true, true, true, false, true, true, true, false, false, true, false, false, true, true, false] rfl rfl (by kernel_rfl) (fun _ _ _ h => h) (Or.inl ⟨by rfl, ?_⟩) ?_ ?_
  rotate_left
  · intro w'
    go_simp
    with_reducible rfl
  rotate_left
  · simp only [Act.put, List.setIfInBounds_toArray, List.set_cons_zero, List.set_cons_succ, i64_w, i32_w]
    rfl
  refine take_ (i := 3) (N := some 97) (v := ?_) (a' := ?_) #[true, true, true, true, true, true, true, false, false, true, false, false, true, true, false] rfl rfl (by kernel_rfl) (fun _ _ _ h => h) (Or.inl ⟨by rfl, ?_⟩) hHeld ?_ ?_
  rotate_left
  · intro w' s0
    go_simp
    with_reducible rfl
  rotate_left
  · simp only [Act.put, List.setIfInBounds_toArray, List.set_cons_zero, List.set_cons_succ, i64_w, i32_w]
    rfl
  refine take_ (i := 7) (N := some 101) (v := ?_) (a' := ?_) #[true, true, true, true, true, true, true, true, false, true, false, false, true, true, false] rfl rfl (by kernel_rfl) (fun _ _ _ h => h) (Or.inl ⟨by rfl, ?_⟩) hHeld ?_ ?_
  rotate_left
  · intro w' s0
    go_simp
    with_reducible rfl
  rotate_left
  · simp only [Act.put, List.setIfInBounds_toArray, List.set_cons_zero, List.set_cons_succ, i64_w, i32_w]
    rfl
  refine pure_ (i := 8) (N := some 102) (v := ?_) (a' := ?_) #[true, true, true, true, true, true, true, true, true, true, false, false, true, true, false] rfl rfl (by kernel_rfl) (fun _ _ _ h => h) (Or.inl ⟨by rfl, ?_⟩) ?_ ?_
  rotate_left
  · intro w'
    go_simp
    with_reducible rfl
  rotate_left
  · simp only [Act.put, List.setIfInBounds_toArray, List.set_cons_zero, List.set_cons_succ, i64_w, i32_w]
    rfl
  refine pure_ (i := 10) (N := some 104) (v := ?_) (a' := ?_) #[true, true, true, true, true, true, true, true, true, true, true, false, true, true, false] rfl rfl (by kernel_rfl) (fun _ _ _ h => h) (Or.inl ⟨by rfl, ?_⟩) ?_ ?_
  rotate_left
  · intro w'
    go_simp
    with_reducible rfl
  rotate_left
  · simp only [Act.put, List.setIfInBounds_toArray, List.set_cons_zero, List.set_cons_succ, i64_w, i32_w]
    rfl
  refine pure_ (i := 11) (N := some 105) (v := ?_) (a' := ?_) #[true, true, true, true, true, true, true, true, true, true, true, true, true, true, false] rfl rfl (by kernel_rfl) (fun _ _ _ h => h) (Or.inl ⟨by rfl, ?_⟩) ?_ ?_
  rotate_left
  · intro w'
    go_simp
    with_reducible rfl
  rotate_left
  · simp only [Act.put, List.setIfInBounds_toArray, List.set_cons_zero, List.set_cons_succ, i64_w, i32_w]
    rfl
  refine one_ (i := 14) (N := some 108) #[true, true, true, true, true, true, true, true, true, true, true, true, true, true, true] rfl rfl (by kernel_rfl) (by decide) (fun K hK => ?_)
  refine goes_ Tryd.func83 (by kernel_rfl) rfl #[.slice (some ⟨mb, 0, none⟩) L.length c, .slice (some ⟨w.heap.size, 10, none⟩) (S - 10) (S - 10)] (by rfl) rfl rfl (by simp only [List.map_toArray, List.map_cons, List.map_nil]; rfl) ?_
  with_reducible refine (bytesO_c 10 (1 :: B :: (be4 p ++ be4 (E % 4294967296))) (by simp [be4]) (some ⟨mb, 0, none⟩) L.length c L w.heap.size (S - 10) (S - 10) Z 5 w _ HWS.out HB6.out.drew (Nat.le_refl _) (by rw [hp_drew]; exact HG6.out) (by rw [HZL.out]; have := HS.out; omega) (by have := HS.out; omega) (by have := HC.out.len; have := HS.out; omega)).mono ?_
  rintro e w7 ⟨rfl, hg7, hb7⟩
  refine ⟨_, rfl, ?_⟩
  have HG7 := Aside0.mk hg7
  have HB7 := Aside0.mk hb7
  have HF7 := Aside0.mk (H.out.below hb7)
  clear q0 q1 q2 q3 q4 q5 q6 r0 r1 r2 r3 r4 r5 r6
  obtain ⟨q0, q1, q2, q3, q4, q5, q6, r0, r1, r2, r3, r4, r5, r6⟩ := blk7 HF7.out.flt
  have lg7 := hp_lt HF7.out.flt
  clear hg7 hb7 HG6 HB6 HF6
  refine hK.out _ _ (q5) (fun hHeld => ?_)
  clear hK K
  refine norm_ (a' := ?_) ?_ ?_
  rotate_left
  · show Act.put _ (some 108) _ = _
    simp only [Act.put, List.setIfInBounds_toArray, List.set_cons_zero, List.set_cons_succ, i64_w, i32_w]
    rfl
  refine done_ (by kernel_rfl) ?_
  go_wp2_with (fail)
  refine bodyPost_ret (v := .tuple #[.slice (some ⟨w.heap.size, 0, none⟩) S S, .nilIface]) (by simp [results, Tryd.results55, go_sem]) rfl ?_
  refine ⟨w.heap.size, S, Nat.le_refl _, HS.out, rfl, ?_, HB7.out⟩
  rw [HG7.out]
  have e1 : wrt Z (S - 10) (le L) = (le L).reverse := by
    have h1 := HS.out
    have h2 := HZL.out
    have h3 := le_len L
    unfold wrt
    rw [show S - 10 - (le L).length = 0 by omega, List.take_zero, List.nil_append, List.drop_eq_nil_of_le (by omega), List.append_nil]
  rw [e1, encF, ← HBB.out]
  simp
end Go.Proofs.YtglikgjaobedbaaDoor.Sp
