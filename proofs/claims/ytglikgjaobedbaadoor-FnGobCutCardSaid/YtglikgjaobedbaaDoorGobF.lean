/-
  CONTRACTS of Float.GobEncode, Float.GobDecode at noughts and infinities.
-/
import Derived.Test.YtglikgjaobedbaaDoorCopied
import Derived.Test.YtglikgjaobedbaaDoorGbyt
namespace Go.Proofs.YtglikgjaobedbaaDoor.Sp
open Go.RowKit Go.Proofs.YtglikgjaobedbaaDoorW.PrintWords Go.Proofs.YtglikgjaobedbaaDoorW.PrintLast Go.Proofs.YtglikgjaobedbaaDoorW.PrintMore Go.Proofs.YtglikgjaobedbaaDoor.Dig
set_option linter.unusedVariables false
set_option linter.unusedSimpArgs false
def be4 (n : Int) : List Int := [n / 16777216 % 256, n / 65536 % 256, n / 256 % 256, n % 256]
theorem be4_b32 (n : Int) (h0 : 0 ≤ n) (h1 : n < 4294967296) (T : List Int) : b32 (be4 n ++ T) = n := by
  simp only [be4, b32, List.cons_append, List.nil_append, List.getD_cons_zero, List.getD_cons_succ]
  omega
theorem enc_C {w : World} {g : Nat} {t : TypeId} (p : Nat) (X : List Int) (h : hp w g = some (.cells (u8s (List.replicate p 0 ++ X)) t (0, 0))) (hX : X.length ≤ 1000000) : Kd.C (Kd.int .u8) w (some ⟨g, p, none⟩) X.length X := by
  refine blk_C _ h p (by omega) (fun i hi => ?_)
  rw [u8s_get _ (p + i) (by simp; omega)]
  congr 2
  simp only [List.getD_eq_getElem?_getD]
  rw [List.getElem?_append_right (by simp), List.length_replicate, Nat.add_sub_cancel_left]
set_option maxHeartbeats 800000 in
set_option maxRecDepth 100000 in
theorem put32_c (g q c : Nat) (xs : List Int) (t : TypeId) (n : Int) (w0 w : World) (hB : Below w0.heap.size w0 w) (hg : w0.heap.size ≤ g) (h : hp w g = some (.cells (u8s xs) t (0, 0))) (hq : q + 4 ≤ xs.length) (hn : 0 ≤ n) :
    Calls Tryd.prog 82 #[.slice (some ⟨g, q, none⟩) 4 c, .int .u32 n] w fun e w' => e = .returned (.tuple #[]) ∧ hp w' g = some (.cells (u8s ((((xs.set q (n / 16777216 % 256)).set (q + 1) (n / 65536 % 256)).set (q + 2) (n / 256 % 256)).set (q + 3) (n % 256))) t (0, 0)) ∧ Below w0.heap.size w0 w' := by
  have h0 := (blk_cell h q).trans (u8s_get _ q (by omega))
  have h1 := (blk_cell h (q + 1)).trans (u8s_get _ (q + 1) (by omega))
  have h2 := (blk_cell h (q + 2)).trans (u8s_get _ (q + 2) (by omega))
  have h3 := (blk_cell h (q + 3)).trans (u8s_get _ (q + 3) (by omega))
  have f0 := blk_frozen h q
  have f1 := blk_frozen h (q + 1)
  have f2 := blk_frozen h (q + 2)
  have f3 := blk_frozen h (q + 3)
  have H := Aside0.mk h
  have HB := Aside0.mk hB
  generalize xs.getD q 0 = x0 at h0
  generalize xs.getD (q + 1) 0 = x1 at h1
  generalize xs.getD (q + 2) 0 = x2 at h2
  generalize xs.getD (q + 3) 0 = x3 at h3
  clear h hB hq
  go_enter Tryd.func82, Tryd.ntmps82
  go_wp2_with (fail)
  refine bodyPost_end (v := .tuple #[]) (by simp [results, Tryd.results82, go_sem]) rfl ?_
  refine ⟨rfl, ?_, (((HB.out.setCell (p := ⟨g, q, none⟩) hg _).setCell (p := ⟨g, q + 1, none⟩) hg _).setCell (p := ⟨g, q + 2, none⟩) hg _).setCell (p := ⟨g, q + 3, none⟩) hg _⟩
  rw [hp_here _ _ _ _ _ rfl, hp_here _ _ _ _ _ rfl, hp_here _ _ _ _ _ rfl, hp_here _ _ _ _ _ rfl, H.out]
  simp only [Option.map_some, setObj_cells, u8s_set]
theorem hp_bel2 {w w' : World} {k B : Nat} {o : Obj} (h : hp w k = some o) (hb : Below B w w') (hk : k < B) : hp w' k = some o := (hb.block k hk).trans h
theorem R_empty {w : World} {g base e : Nat} (k : IntKind) (h : hp w g = some (.cells #[] e (0, 0))) (hb : base ≤ g) : Kd.R (Kd.int k) e w base (fun k => base ≤ k) (.slice (some ⟨g, 0, none⟩) 0 0) [] :=
  ⟨fun k hk => by simp [Value.ownBlock] at hk; omega, [], ⟨rfl, Or.inr ⟨g, 0, #[], rfl, hb, h, Nat.le_refl _, by decide, rfl, rfl⟩⟩, Reps.none _ _⟩
/-- The second byte. -/
def gobB (m f : Int) (neg : Bool) : Int := m * 32 + 8 + f * 2 + (if neg then 1 else 0)
theorem gob_b1 {m f : Int} (hm : 0 ≤ m ∧ m < 6) (hf : f = 0 ∨ f = 2) : Go.bits .or .u8 (Go.bits .or .u8 (IntKind.u8.wrap (Go.bits .and .u8 m 7 * 32)) (IntKind.u8.wrap (IntKind.u8.wrap (Go.bits .and .i8 (IntKind.i8.wrap 1) 3) * 8))) (IntKind.u8.wrap (Go.bits .and .u8 f 3 * 2)) = m * 32 + 8 + f * 2 := by
  have h : m = 0 ∨ m = 1 ∨ m = 2 ∨ m = 3 ∨ m = 4 ∨ m = 5 := by omega
  rcases h with rfl | rfl | rfl | rfl | rfl | rfl <;> rcases hf with rfl | rfl <;> rfl
theorem gob_b2 {m f : Int} (hm : 0 ≤ m ∧ m < 6) (hf : f = 0 ∨ f = 2) : Go.bits .or .u8 (m * 32 + 8 + f * 2) 1 = m * 32 + 8 + f * 2 + 1 := by
  have h : m = 0 ∨ m = 1 ∨ m = 2 ∨ m = 3 ∨ m = 4 ∨ m = 5 := by omega
  rcases h with rfl | rfl | rfl | rfl | rfl | rfl <;> rcases hf with rfl | rfl <;> rfl
set_option maxHeartbeats 3200000 in
set_option maxRecDepth 100000 in
theorem gobEnc_spc (g p : Nat) (m f : Int) (neg : Bool) (w : World) (h : Spc w g p m f neg) (hf : f = 0 ∨ f = 2) (hpx : p ≤ 600000) (hm : 0 ≤ m ∧ m < 6) :
    Calls Tryd.prog 55 #[.pointer (some ⟨g, 0, none⟩)] w fun e w' => ∃ gb, w.heap.size ≤ gb ∧ e = .returned (.tuple #[.slice (some ⟨gb, 0, none⟩) 6 6, .nilIface]) ∧ hp w' gb = some (.cells (u8s (1 :: gobB m f neg :: be4 p)) 5 (0, 0)) ∧ Below w.heap.size w w' := by
  have hmk := make_ints 56 5 .u8 1 Tryd.underlying56 infoU8 (by omega) 6 6 (by omega) (by omega) (by omega)
  have e6 : (6 : Int).toNat = 6 := rfl
  rw [e6, u8s_rep] at hmk
  have hf1 : (f == 1) = false := by rw [beq_eq_false_iff_ne]; omega
  obtain ⟨c0, c1, c2, c3, c4, c5, c6, f0, f1, f2, f3, f4, f5, f6⟩ := blk7 h.blk
  have lg := hp_lt h.blk
  have H := Aside0.mk h
  clear h
  go_enter Tryd.func55, Tryd.ntmps55
  go_upto_region 12 with (fail)
  obtain ⟨w1, hw1⟩ : ∃ w1, w1 = w.alloc (.cells ((u8s [0, 0, 0, 0, 0, 0]).setIfInBounds 0 (.int .u8 1)) 5) := ⟨_, rfl⟩
  have hb1 : Below w.heap.size w w1 := by rw [hw1]; exact below_alloc (Below.refl _ _) _
  have hg1 : hp w1 w.heap.size = some (.cells (u8s [1, 0, 0, 0, 0, 0]) 5 (0, 0)) := by rw [hw1, hp_new _ _ _ rfl]; rfl
  rw [← hw1]
  clear hw1 c0 c1 c2 c3 c4 c5 c6 f0 f1 f2 f3 f4 f5 f6 hmk
  obtain ⟨c0, c1, c2, c3, c4, c5, c6, f0, f1, f2, f3, f4, f5, f6⟩ := blk7 (hp_below H.out.blk hb1)
  have lg1 := hp_lt (hp_below H.out.blk hb1)
  refine start_ (n := 23) (S := fun w' => w'.cell? ⟨g, 1, none⟩ = some (.int .u8 m) ∧ w'.cell? ⟨g, 2, none⟩ = some (.int .i8 0) ∧ w'.cell? ⟨g, 3, none⟩ = some (.int .u8 f)) (ds := []) #[false, false, false, false, false, false, false, false, false, false, false, false, false, false, false, false, false, false, false, false, false, false, false] (by kernel_rfl) rfl rfl ⟨(by go_simp), (by go_simp), (by go_simp)⟩ (fun hHeld => ?_)
  refine pure_ (i := 0) (N := some 43) (v := ?_) (a' := ?_) #[true, false, false, false, false, false, false, false, false, false, false, false, false, false, false, false, false, false, false, false, false, false, false] rfl rfl (by kernel_rfl) (fun _ _ _ h => h) (Or.inl ⟨by rfl, ?_⟩) ?_ ?_
  rotate_left
  · intro w'
    go_simp
    with_reducible rfl
  rotate_left
  · simp only [Act.put, List.setIfInBounds_toArray, List.set_cons_zero, List.set_cons_succ, i64_w, i32_w]
    rfl
  refine pure_ (i := 1) (N := some 44) (v := ?_) (a' := ?_) #[true, true, false, false, false, false, false, false, false, false, false, false, false, false, false, false, false, false, false, false, false, false, false] rfl rfl (by kernel_rfl) (fun _ _ _ h => h) (Or.inl ⟨by rfl, ?_⟩) ?_ ?_
  rotate_left
  · intro w'
    go_simp
    with_reducible rfl
  rotate_left
  · simp only [Act.put, List.setIfInBounds_toArray, List.set_cons_zero, List.set_cons_succ, i64_w, i32_w]
    rfl
  refine pure_ (i := 2) (N := some 45) (v := ?_) (a' := ?_) #[true, true, true, false, false, false, false, false, false, false, false, false, false, false, false, false, false, false, false, false, false, false, false] rfl rfl (by kernel_rfl) (fun _ _ _ h => h) (Or.inl ⟨by rfl, ?_⟩) ?_ ?_
  rotate_left
  · intro w'
    go_simp
    with_reducible rfl
  rotate_left
  · simp only [Act.put, List.setIfInBounds_toArray, List.set_cons_zero, List.set_cons_succ, i64_w, i32_w]
    rfl
  refine pure_ (i := 6) (N := some 49) (v := ?_) (a' := ?_) #[true, true, true, false, false, false, true, false, false, false, false, false, false, false, false, false, false, false, false, false, false, false, false] rfl rfl (by kernel_rfl) (fun _ _ _ h => h) (Or.inl ⟨by rfl, ?_⟩) ?_ ?_
  rotate_left
  · intro w'
    go_simp
    with_reducible rfl
  rotate_left
  · simp only [Act.put, List.setIfInBounds_toArray, List.set_cons_zero, List.set_cons_succ, i64_w, i32_w]
    rfl
  refine pure_ (i := 7) (N := some 50) (v := ?_) (a' := ?_) #[true, true, true, false, false, false, true, true, false, false, false, false, false, false, false, false, false, false, false, false, false, false, false] rfl rfl (by kernel_rfl) (fun _ _ _ h => h) (Or.inl ⟨by rfl, ?_⟩) ?_ ?_
  rotate_left
  · intro w'
    go_simp
    with_reducible rfl
  rotate_left
  · simp only [Act.put, List.setIfInBounds_toArray, List.set_cons_zero, List.set_cons_succ, i64_w, i32_w]
    rfl
  refine pure_ (i := 8) (N := some 51) (v := ?_) (a' := ?_) #[true, true, true, false, false, false, true, true, true, false, false, false, false, false, false, false, false, false, false, false, false, false, false] rfl rfl (by kernel_rfl) (fun _ _ _ h => h) (Or.inl ⟨by rfl, ?_⟩) ?_ ?_
  rotate_left
  · intro w'
    go_simp
    with_reducible rfl
  rotate_left
  · simp only [Act.put, List.setIfInBounds_toArray, List.set_cons_zero, List.set_cons_succ, i64_w, i32_w]
    rfl
  refine pure_ (i := 15) (N := some 58) (v := ?_) (a' := ?_) #[true, true, true, false, false, false, true, true, true, false, false, false, false, false, false, true, false, false, false, false, false, false, false] rfl rfl (by kernel_rfl) (fun _ _ _ h => h) (Or.inl ⟨by rfl, ?_⟩) ?_ ?_
  rotate_left
  · intro w'
    go_simp
    with_reducible rfl
  rotate_left
  · simp only [Act.put, List.setIfInBounds_toArray, List.set_cons_zero, List.set_cons_succ, i64_w, i32_w]
    rfl
  refine pure_ (i := 16) (N := some 59) (v := ?_) (a' := ?_) #[true, true, true, false, false, false, true, true, true, false, false, false, false, false, false, true, true, false, false, false, false, false, false] rfl rfl (by kernel_rfl) (fun _ _ _ h => h) (Or.inl ⟨by rfl, ?_⟩) ?_ ?_
  rotate_left
  · intro w'
    go_simp
    with_reducible rfl
  rotate_left
  · simp only [Act.put, List.setIfInBounds_toArray, List.set_cons_zero, List.set_cons_succ, i64_w, i32_w]
    rfl
  refine pure_ (i := 17) (N := some 60) (v := ?_) (a' := ?_) #[true, true, true, false, false, false, true, true, true, false, false, false, false, false, false, true, true, true, false, false, false, false, false] rfl rfl (by kernel_rfl) (fun _ _ _ h => h) (Or.inl ⟨by rfl, ?_⟩) ?_ ?_
  rotate_left
  · intro w'
    go_simp
    with_reducible rfl
  rotate_left
  · simp only [Act.put, List.setIfInBounds_toArray, List.set_cons_zero, List.set_cons_succ, i64_w, i32_w]
    rfl
  refine take_ (i := 3) (N := some 46) (v := ?_) (a' := ?_) #[true, true, true, true, false, false, true, true, true, false, false, false, false, false, false, true, true, true, false, false, false, false, false] rfl rfl (by kernel_rfl) (fun _ _ _ h => h) (Or.inl ⟨by rfl, ?_⟩) hHeld ?_ ?_
  rotate_left
  · rintro w' ⟨s0, s1, s2⟩
    go_simp
    with_reducible rfl
  rotate_left
  · simp only [Act.put, List.setIfInBounds_toArray, List.set_cons_zero, List.set_cons_succ, i64_w, i32_w]
    rfl
  refine pure_ (i := 4) (N := some 47) (v := ?_) (a' := ?_) #[true, true, true, true, true, false, true, true, true, false, false, false, false, false, false, true, true, true, false, false, false, false, false] rfl rfl (by kernel_rfl) (fun _ _ _ h => h) (Or.inl ⟨by rfl, ?_⟩) ?_ ?_
  rotate_left
  · intro w'
    go_simp
    with_reducible rfl
  rotate_left
  · simp only [Act.put, List.setIfInBounds_toArray, List.set_cons_zero, List.set_cons_succ, i64_w, i32_w]
    rfl
  refine pure_ (i := 5) (N := some 48) (v := ?_) (a' := ?_) #[true, true, true, true, true, true, true, true, true, false, false, false, false, false, false, true, true, true, false, false, false, false, false] rfl rfl (by kernel_rfl) (fun _ _ _ h => h) (Or.inl ⟨by rfl, ?_⟩) ?_ ?_
  rotate_left
  · intro w'
    go_simp
    with_reducible rfl
  rotate_left
  · simp only [Act.put, List.setIfInBounds_toArray, List.set_cons_zero, List.set_cons_succ, i64_w, i32_w]
    rfl
  refine take_ (i := 9) (N := some 52) (v := ?_) (a' := ?_) #[true, true, true, true, true, true, true, true, true, true, false, false, false, false, false, true, true, true, false, false, false, false, false] rfl rfl (by kernel_rfl) (fun _ _ _ h => h) (Or.inl ⟨by rfl, ?_⟩) hHeld ?_ ?_
  rotate_left
  · rintro w' ⟨s0, s1, s2⟩
    go_simp
    with_reducible rfl
  rotate_left
  · simp only [Act.put, List.setIfInBounds_toArray, List.set_cons_zero, List.set_cons_succ, i64_w, i32_w]
    rfl
  refine pure_ (i := 10) (N := some 53) (v := ?_) (a' := ?_) #[true, true, true, true, true, true, true, true, true, true, true, false, false, false, false, true, true, true, false, false, false, false, false] rfl rfl (by kernel_rfl) (fun _ _ _ h => h) (Or.inl ⟨by rfl, ?_⟩) ?_ ?_
  rotate_left
  · intro w'
    go_simp
    with_reducible rfl
  rotate_left
  · simp only [Act.put, List.setIfInBounds_toArray, List.set_cons_zero, List.set_cons_succ, i64_w, i32_w]
    rfl
  refine pure_ (i := 11) (N := some 54) (v := ?_) (a' := ?_) #[true, true, true, true, true, true, true, true, true, true, true, true, false, false, false, true, true, true, false, false, false, false, false] rfl rfl (by kernel_rfl) (fun _ _ _ h => h) (Or.inl ⟨by rfl, ?_⟩) ?_ ?_
  rotate_left
  · intro w'
    go_simp
    with_reducible rfl
  rotate_left
  · simp only [Act.put, List.setIfInBounds_toArray, List.set_cons_zero, List.set_cons_succ, i64_w, i32_w]
    rfl
  refine pure_ (i := 12) (N := some 55) (v := ?_) (a' := ?_) #[true, true, true, true, true, true, true, true, true, true, true, true, true, false, false, true, true, true, false, false, false, false, false] rfl rfl (by kernel_rfl) (fun _ _ _ h => h) (Or.inl ⟨by rfl, ?_⟩) ?_ ?_
  rotate_left
  · intro w'
    go_simp
    with_reducible rfl
  rotate_left
  · simp only [Act.put, List.setIfInBounds_toArray, List.set_cons_zero, List.set_cons_succ, i64_w, i32_w]
    rfl
  refine pure_ (i := 13) (N := some 56) (v := ?_) (a' := ?_) #[true, true, true, true, true, true, true, true, true, true, true, true, true, true, false, true, true, true, false, false, false, false, false] rfl rfl (by kernel_rfl) (fun _ _ _ h => h) (Or.inl ⟨by rfl, ?_⟩) ?_ ?_
  rotate_left
  · intro w'
    go_simp
    with_reducible rfl
  rotate_left
  · simp only [Act.put, List.setIfInBounds_toArray, List.set_cons_zero, List.set_cons_succ, i64_w, i32_w]
    rfl
  refine pure_ (i := 14) (N := some 57) (v := ?_) (a' := ?_) #[true, true, true, true, true, true, true, true, true, true, true, true, true, true, true, true, true, true, false, false, false, false, false] rfl rfl (by kernel_rfl) (fun _ _ _ h => h) (Or.inl ⟨by rfl, ?_⟩) ?_ ?_
  rotate_left
  · intro w'
    go_simp
    with_reducible rfl
  rotate_left
  · simp only [Act.put, List.setIfInBounds_toArray, List.set_cons_zero, List.set_cons_succ, i64_w, i32_w]
    rfl
  refine take_ (i := 18) (N := some 61) (v := ?_) (a' := ?_) #[true, true, true, true, true, true, true, true, true, true, true, true, true, true, true, true, true, true, true, false, false, false, false] rfl rfl (by kernel_rfl) (fun _ _ _ h => h) (Or.inl ⟨by rfl, ?_⟩) hHeld ?_ ?_
  rotate_left
  · rintro w' ⟨s0, s1, s2⟩
    go_simp
    with_reducible rfl
  rotate_left
  · simp only [Act.put, List.setIfInBounds_toArray, List.set_cons_zero, List.set_cons_succ, i64_w, i32_w]
    rfl
  refine pure_ (i := 19) (N := some 62) (v := ?_) (a' := ?_) #[true, true, true, true, true, true, true, true, true, true, true, true, true, true, true, true, true, true, true, true, false, false, false] rfl rfl (by kernel_rfl) (fun _ _ _ h => h) (Or.inl ⟨by rfl, ?_⟩) ?_ ?_
  rotate_left
  · intro w'
    go_simp
    with_reducible rfl
  rotate_left
  · simp only [Act.put, List.setIfInBounds_toArray, List.set_cons_zero, List.set_cons_succ, i64_w, i32_w]
    rfl
  refine pure_ (i := 20) (N := some 63) (v := ?_) (a' := ?_) #[true, true, true, true, true, true, true, true, true, true, true, true, true, true, true, true, true, true, true, true, true, false, false] rfl rfl (by kernel_rfl) (fun _ _ _ h => h) (Or.inl ⟨by rfl, ?_⟩) ?_ ?_
  rotate_left
  · intro w'
    go_simp
    with_reducible rfl
  rotate_left
  · simp only [Act.put, List.setIfInBounds_toArray, List.set_cons_zero, List.set_cons_succ, i64_w, i32_w]
    rfl
  refine pure_ (i := 21) (N := some 64) (v := ?_) (a' := ?_) #[true, true, true, true, true, true, true, true, true, true, true, true, true, true, true, true, true, true, true, true, true, true, false] rfl rfl (by kernel_rfl) (fun _ _ _ h => h) (Or.inl ⟨by rfl, ?_⟩) ?_ ?_
  rotate_left
  · intro w'
    go_simp
    with_reducible rfl
  rotate_left
  · simp only [Act.put, List.setIfInBounds_toArray, List.set_cons_zero, List.set_cons_succ, i64_w, i32_w]
    rfl
  refine pure_ (i := 22) (N := some 7) (v := ?_) (a' := ?_) #[true, true, true, true, true, true, true, true, true, true, true, true, true, true, true, true, true, true, true, true, true, true, true] rfl rfl (by kernel_rfl) (fun _ _ _ h => h) (Or.inl ⟨by rfl, ?_⟩) ?_ ?_
  rotate_left
  · intro w'
    go_simp
    with_reducible rfl
  rotate_left
  · simp only [Act.put, List.setIfInBounds_toArray, List.set_cons_zero, List.set_cons_succ, i64_w, i32_w]
    rfl
  refine done_ (by kernel_rfl) ?_
  rw [gob_b1 hm hf]
  obtain ⟨b, hb⟩ : ∃ b, b = m * 32 + 8 + f * 2 := ⟨_, rfl⟩
  have hb2 := gob_b2 hm hf
  rw [← hb] at hb2 ⊢
  have HBB := Aside0.mk hb
  have HB1 := Aside0.mk hb1
  have HG1 := Aside0.mk hg1
  have d0 : w1.cell? ⟨w.heap.size, 0, none⟩ = some (.int .u8 1) := (blk_cell hg1 0).trans (u8s_get _ 0 (by simp))
  have d1 : w1.cell? ⟨w.heap.size, 1, none⟩ = some (.int .u8 0) := (blk_cell hg1 1).trans (u8s_get _ 1 (by simp))
  have e1 : w1.frozen? ⟨w.heap.size, 1, none⟩ = false := blk_frozen hg1 1
  have lb1 := hp_lt hg1
  clear hb hb1 hg1
  cases neg with
  | false =>
    go_upto_region 16 with (fail)
    obtain ⟨w2, hw2⟩ : ∃ w2, w2 = (w1.setCell ⟨w.heap.size, 1, none⟩ (.int .u8 b)).drew := ⟨_, rfl⟩
    have HB2 : Aside0 (Below w.heap.size w w2) := ⟨by rw [hw2]; exact (HB1.out.setCell (p := ⟨w.heap.size, 1, none⟩) (Nat.le_refl _) _).drew⟩
    have HG2 : Aside0 (hp w2 w.heap.size = some (.cells (u8s [1, b, 0, 0, 0, 0]) 5 (0, 0))) := ⟨by rw [hw2, hp_drew, hp_here _ _ _ _ _ rfl, HG1.out]; rfl⟩
    rw [← hw2]
    clear hw2
    have HS2 := Aside0.mk (show Spc w2 g p m f false from hp_below H.out.blk HB2.out)
    obtain ⟨c0, c1, c2, c3, c4, c5, c6, f0, f1, f2, f3, f4, f5, f6⟩ := blk7 HS2.out.blk
    have lg2 := hp_lt HS2.out.blk
    have lb2 := hp_lt HG2.out
    refine start_ (n := 7) (S := fun w' => w'.cell? ⟨g, 0, none⟩ = some (.int .u32 p)) (ds := []) #[false, false, false, false, false, false, false] (by kernel_rfl) rfl rfl ((by go_simp)) (fun hHeld => ?_)
    refine pure_ (i := 0) (N := some 74) (v := ?_) (a' := ?_) #[true, false, false, false, false, false, false] rfl rfl (by kernel_rfl) (fun _ _ _ h => h) (Or.inl ⟨by rfl, ?_⟩) ?_ ?_
    rotate_left
    · intro w'
      go_simp
      with_reducible rfl
    rotate_left
    · simp only [Act.put, List.setIfInBounds_toArray, List.set_cons_zero, List.set_cons_succ, i64_w, i32_w]
      rfl
    refine pure_ (i := 1) (N := some 75) (v := ?_) (a' := ?_) #[true, true, false, false, false, false, false] rfl rfl (by kernel_rfl) (fun _ _ _ h => h) (Or.inl ⟨by rfl, ?_⟩) ?_ ?_
    rotate_left
    · intro w'
      go_simp
      with_reducible rfl
    rotate_left
    · simp only [Act.put, List.setIfInBounds_toArray, List.set_cons_zero, List.set_cons_succ, i64_w, i32_w]
      rfl
    refine pure_ (i := 2) (N := some 76) (v := ?_) (a' := ?_) #[true, true, true, false, false, false, false] rfl rfl (by kernel_rfl) (fun _ _ _ h => h) (Or.inl ⟨by rfl, ?_⟩) ?_ ?_
    rotate_left
    · intro w'
      go_simp
      with_reducible rfl
    rotate_left
    · simp only [Act.put, List.setIfInBounds_toArray, List.set_cons_zero, List.set_cons_succ, i64_w, i32_w]
      rfl
    refine pure_ (i := 3) (N := some 77) (v := ?_) (a' := ?_) #[true, true, true, true, false, false, false] rfl rfl (by kernel_rfl) (fun _ _ _ h => h) (Or.inl ⟨by rfl, ?_⟩) ?_ ?_
    rotate_left
    · intro w'
      go_simp
      with_reducible rfl
    rotate_left
    · simp only [Act.put, List.setIfInBounds_toArray, List.set_cons_zero, List.set_cons_succ, i64_w, i32_w]
      rfl
    refine pure_ (i := 4) (N := some 78) (v := ?_) (a' := ?_) #[true, true, true, true, true, false, false] rfl rfl (by kernel_rfl) (fun _ _ _ h => h) (Or.inl ⟨by rfl, ?_⟩) ?_ ?_
    rotate_left
    · intro w'
      go_simp
      with_reducible rfl
    rotate_left
    · simp only [Act.put, List.setIfInBounds_toArray, List.set_cons_zero, List.set_cons_succ, i64_w, i32_w]
      rfl
    refine take_ (i := 5) (N := some 79) (v := ?_) (a' := ?_) #[true, true, true, true, true, true, false] rfl rfl (by kernel_rfl) (fun _ _ _ h => h) (Or.inl ⟨by rfl, ?_⟩) hHeld ?_ ?_
    rotate_left
    · intro w' s0
      go_simp
      with_reducible rfl
    rotate_left
    · simp only [Act.put, List.setIfInBounds_toArray, List.set_cons_zero, List.set_cons_succ, i64_w, i32_w]
      rfl
    refine one_ (i := 6) (N := some 80) #[true, true, true, true, true, true, true] rfl rfl (by kernel_rfl) (by decide) (fun K hK => ?_)
    refine goes_ Tryd.func82 (by kernel_rfl) rfl #[.slice (some ⟨w.heap.size, 2, none⟩) 4 4, .int .u32 p] (by rfl) rfl rfl (by simp only [List.map_toArray, List.map_cons, List.map_nil]; rfl) ?_
    with_reducible refine (put32_c w.heap.size 2 4 [1, b, 0, 0, 0, 0] 5 p w _ HB2.out.drew (Nat.le_refl _) (by rw [hp_drew]; exact HG2.out) (by simp) (by omega)).mono ?_
    rintro e w3 ⟨rfl, hg3, hb3⟩
    refine ⟨_, rfl, ?_⟩
    have HG3 := Aside0.mk hg3
    have HB3 := Aside0.mk hb3
    have hs3 := hp_below (show hp w g = _ from H.out.blk) hb3
    obtain ⟨q0, q1, q2, q3, q4, q5, q6, _, _, _, _, _, _, _⟩ := blk7 hs3
    have lg3 := hp_lt hs3
    clear hg3 hb3 hs3 c0 c1 c2 c3 c4 c5 c6 f0 f1 f2 f3 f4 f5 f6
    refine hK.out _ _ (q0) (fun hHeld => ?_)
    clear hK K
    refine norm_ (a' := ?_) ?_ ?_
    rotate_left
    · show Act.put _ (some 80) _ = _
      simp only [Act.put, List.setIfInBounds_toArray, List.set_cons_zero, List.set_cons_succ, i64_w, i32_w]
      rfl
    refine done_ (by kernel_rfl) ?_
    go_wp2_with (fail)
    refine bodyPost_ret (v := .tuple #[.slice (some ⟨w.heap.size, 0, none⟩) 6 6, .nilIface]) (by simp [results, Tryd.results55, go_sem]) rfl ?_
    refine ⟨w.heap.size, Nat.le_refl _, rfl, ?_, HB3.out⟩
    rw [HG3.out]
    simp [gobB, be4, HBB.out]
  | true =>
    go_upto_region 16 with (fail)
    obtain ⟨w2, hw2⟩ : ∃ w2, w2 = (w1.setCell ⟨w.heap.size, 1, none⟩ (.int .u8 (b + 1))).drew := ⟨_, rfl⟩
    have HB2 : Aside0 (Below w.heap.size w w2) := ⟨by rw [hw2]; exact (HB1.out.setCell (p := ⟨w.heap.size, 1, none⟩) (Nat.le_refl _) _).drew⟩
    have HG2 : Aside0 (hp w2 w.heap.size = some (.cells (u8s [1, b + 1, 0, 0, 0, 0]) 5 (0, 0))) := ⟨by rw [hw2, hp_drew, hp_here _ _ _ _ _ rfl, HG1.out]; rfl⟩
    rw [← hw2]
    clear hw2
    have HS2 := Aside0.mk (show Spc w2 g p m f true from hp_below H.out.blk HB2.out)
    obtain ⟨c0, c1, c2, c3, c4, c5, c6, f0, f1, f2, f3, f4, f5, f6⟩ := blk7 HS2.out.blk
    have lg2 := hp_lt HS2.out.blk
    have lb2 := hp_lt HG2.out
    refine start_ (n := 7) (S := fun w' => w'.cell? ⟨g, 0, none⟩ = some (.int .u32 p)) (ds := []) #[false, false, false, false, false, false, false] (by kernel_rfl) rfl rfl ((by go_simp)) (fun hHeld => ?_)
    refine pure_ (i := 0) (N := some 74) (v := ?_) (a' := ?_) #[true, false, false, false, false, false, false] rfl rfl (by kernel_rfl) (fun _ _ _ h => h) (Or.inl ⟨by rfl, ?_⟩) ?_ ?_
    rotate_left
    · intro w'
      go_simp
      with_reducible rfl
    rotate_left
    · simp only [Act.put, List.setIfInBounds_toArray, List.set_cons_zero, List.set_cons_succ, i64_w, i32_w]
      rfl
    refine pure_ (i := 1) (N := some 75) (v := ?_) (a' := ?_) #[true, true, false, false, false, false, false] rfl rfl (by kernel_rfl) (fun _ _ _ h => h) (Or.inl ⟨by rfl, ?_⟩) ?_ ?_
    rotate_left
    · intro w'
      go_simp
      with_reducible rfl
    rotate_left
    · simp only [Act.put, List.setIfInBounds_toArray, List.set_cons_zero, List.set_cons_succ, i64_w, i32_w]
      rfl
    refine pure_ (i := 2) (N := some 76) (v := ?_) (a' := ?_) #[true, true, true, false, false, false, false] rfl rfl (by kernel_rfl) (fun _ _ _ h => h) (Or.inl ⟨by rfl, ?_⟩) ?_ ?_
    rotate_left
    · intro w'
      go_simp
      with_reducible rfl
    rotate_left
    · simp only [Act.put, List.setIfInBounds_toArray, List.set_cons_zero, List.set_cons_succ, i64_w, i32_w]
      rfl
    refine pure_ (i := 3) (N := some 77) (v := ?_) (a' := ?_) #[true, true, true, true, false, false, false] rfl rfl (by kernel_rfl) (fun _ _ _ h => h) (Or.inl ⟨by rfl, ?_⟩) ?_ ?_
    rotate_left
    · intro w'
      go_simp
      with_reducible rfl
    rotate_left
    · simp only [Act.put, List.setIfInBounds_toArray, List.set_cons_zero, List.set_cons_succ, i64_w, i32_w]
      rfl
    refine pure_ (i := 4) (N := some 78) (v := ?_) (a' := ?_) #[true, true, true, true, true, false, false] rfl rfl (by kernel_rfl) (fun _ _ _ h => h) (Or.inl ⟨by rfl, ?_⟩) ?_ ?_
    rotate_left
    · intro w'
      go_simp
      with_reducible rfl
    rotate_left
    · simp only [Act.put, List.setIfInBounds_toArray, List.set_cons_zero, List.set_cons_succ, i64_w, i32_w]
      rfl
    refine take_ (i := 5) (N := some 79) (v := ?_) (a' := ?_) #[true, true, true, true, true, true, false] rfl rfl (by kernel_rfl) (fun _ _ _ h => h) (Or.inl ⟨by rfl, ?_⟩) hHeld ?_ ?_
    rotate_left
    · intro w' s0
      go_simp
      with_reducible rfl
    rotate_left
    · simp only [Act.put, List.setIfInBounds_toArray, List.set_cons_zero, List.set_cons_succ, i64_w, i32_w]
      rfl
    refine one_ (i := 6) (N := some 80) #[true, true, true, true, true, true, true] rfl rfl (by kernel_rfl) (by decide) (fun K hK => ?_)
    refine goes_ Tryd.func82 (by kernel_rfl) rfl #[.slice (some ⟨w.heap.size, 2, none⟩) 4 4, .int .u32 p] (by rfl) rfl rfl (by simp only [List.map_toArray, List.map_cons, List.map_nil]; rfl) ?_
    with_reducible refine (put32_c w.heap.size 2 4 [1, b + 1, 0, 0, 0, 0] 5 p w _ HB2.out.drew (Nat.le_refl _) (by rw [hp_drew]; exact HG2.out) (by simp) (by omega)).mono ?_
    rintro e w3 ⟨rfl, hg3, hb3⟩
    refine ⟨_, rfl, ?_⟩
    have HG3 := Aside0.mk hg3
    have HB3 := Aside0.mk hb3
    have hs3 := hp_below (show hp w g = _ from H.out.blk) hb3
    obtain ⟨q0, q1, q2, q3, q4, q5, q6, _, _, _, _, _, _, _⟩ := blk7 hs3
    have lg3 := hp_lt hs3
    clear hg3 hb3 hs3 c0 c1 c2 c3 c4 c5 c6 f0 f1 f2 f3 f4 f5 f6
    refine hK.out _ _ (q0) (fun hHeld => ?_)
    clear hK K
    refine norm_ (a' := ?_) ?_ ?_
    rotate_left
    · show Act.put _ (some 80) _ = _
      simp only [Act.put, List.setIfInBounds_toArray, List.set_cons_zero, List.set_cons_succ, i64_w, i32_w]
      rfl
    refine done_ (by kernel_rfl) ?_
    go_wp2_with (fail)
    refine bodyPost_ret (v := .tuple #[.slice (some ⟨w.heap.size, 0, none⟩) 6 6, .nilIface]) (by simp [results, Tryd.results55, go_sem]) rfl ?_
    refine ⟨w.heap.size, Nat.le_refl _, rfl, ?_, HB3.out⟩
    rw [HG3.out]
    simp [gobB, be4, HBB.out]
set_option maxHeartbeats 3200000 in
set_option maxRecDepth 100000 in
theorem gob_spc (p : Nat) (m f x : Int) (neg : Bool) (A : Option Addr) (mm cc : Nat) (w : World) (hf : f = 0 ∨ f = 2) (hp1 : 1 ≤ p ∧ p ≤ 600000) (hm : 0 ≤ m ∧ m < 6) :
    Calls Tryd.prog 29 #[.agg #[.int .u64 p, .int .i64 m, .int .i64 f, .bool neg, .slice A mm cc, .int .i64 x]] w fun e w' => ∃ gb, w.heap.size ≤ gb ∧ e = .returned (.tuple #[.slice (some ⟨gb, 0, none⟩) 6 6, .bool true]) ∧ hp w' gb = some (.cells (u8s (1 :: gobB m f neg :: be4 p)) 5 (0, 0)) ∧ Below w.heap.size w w' := by
  have hu := Tryd.underlying28
  have HB0 := Aside0.mk (below_alloc (Below.refl w.heap.size w) (.cells #[.int .u64 p, .int .i64 m, .int .i64 f, .bool neg, .slice A mm cc, .int .i64 x] 28))
  go_enter Tryd.func29, Tryd.ntmps29
  go_wp2_with (fail)
  refine (exact_spc p m f x neg A mm cc _ hf hp1 hm).mono ?_
  rintro e w1 ⟨g, hg, rfl, hs, hb1⟩
  have HB1 := Aside0.mk (below_step HB0.out hb1)
  have HS := Aside0.mk hs
  clear hs hb1
  go_wp2_with (fail)
  refine (gobEnc_spc g p m f neg w1 HS.out hf (by omega) hm).mono ?_
  rintro e w2 ⟨gb, hgb, rfl, hk, hb2⟩
  have HB2 := Aside0.mk (below_step HB1.out hb2)
  have HK := Aside0.mk hk
  have hs1 := HB1.out.size
  clear hk hb2
  go_wp2_with (fail)
  refine start_ (n := 5) (S := fun w' => True) (ds := []) #[false, false, false, false, false] (by kernel_rfl) rfl rfl trivial (fun hHeld => ?_)
  refine pure_ (i := 0) (N := some 12) (v := ?_) (a' := ?_) #[true, false, false, false, false] rfl rfl (by kernel_rfl) (fun _ _ _ h => h) (Or.inl ⟨by rfl, ?_⟩) ?_ ?_
  rotate_left
  · intro w'
    go_simp
    with_reducible rfl
  rotate_left
  · simp only [Act.put, List.setIfInBounds_toArray, List.set_cons_zero, List.set_cons_succ, i64_w, i32_w]
    rfl
  refine pure_ (i := 1) (N := some 13) (v := ?_) (a' := ?_) #[true, true, false, false, false] rfl rfl (by kernel_rfl) (fun _ _ _ h => h) (Or.inl ⟨by rfl, ?_⟩) ?_ ?_
  rotate_left
  · intro w'
    go_simp
    with_reducible rfl
  rotate_left
  · simp only [Act.put, List.setIfInBounds_toArray, List.set_cons_zero, List.set_cons_succ, i64_w, i32_w]
    rfl
  refine pure_ (i := 2) (N := some 14) (v := ?_) (a' := ?_) #[true, true, true, false, false] rfl rfl (by kernel_rfl) (fun _ _ _ h => h) (Or.inl ⟨by rfl, ?_⟩) ?_ ?_
  rotate_left
  · intro w'
    go_simp
    with_reducible rfl
  rotate_left
  · simp only [Act.put, List.setIfInBounds_toArray, List.set_cons_zero, List.set_cons_succ, i64_w, i32_w]
    rfl
  refine pure_ (i := 3) (N := some 2) (v := ?_) (a' := ?_) #[true, true, true, true, false] rfl rfl (by kernel_rfl) (fun _ _ _ h => h) (Or.inl ⟨by rfl, ?_⟩) ?_ ?_
  rotate_left
  · intro w'
    go_simp
    with_reducible rfl
  rotate_left
  · simp only [Act.put, List.setIfInBounds_toArray, List.set_cons_zero, List.set_cons_succ, i64_w, i32_w]
    rfl
  refine pure_ (i := 4) (N := some 3) (v := ?_) (a' := ?_) #[true, true, true, true, true] rfl rfl (by kernel_rfl) (fun _ _ _ h => h) (Or.inl ⟨by rfl, ?_⟩) ?_ ?_
  rotate_left
  · intro w'
    go_simp
    with_reducible rfl
  rotate_left
  · simp only [Act.put, List.setIfInBounds_toArray, List.set_cons_zero, List.set_cons_succ, i64_w, i32_w]
    rfl
  refine done_ (by kernel_rfl) ?_
  go_wp2_with (fail)
  refine bodyPost_ret (v := .tuple #[.slice (some ⟨gb, 0, none⟩) 6 6, .bool true]) (by simp [results, Tryd.results29, go_sem]) rfl ?_
  exact ⟨gb, Nat.le_trans hs1 hgb, rfl, (hp_drew _ _).trans HK.out, below_drew HB2.out⟩
theorem gob_d {m f : Int} (neg : Bool) (hm : 0 ≤ m ∧ m < 6) (hf : f = 0 ∨ f = 2) : Go.bits .and .u8 (gobB m f neg / 32) 7 = m ∧ IntKind.i8.wrap (IntKind.i8.wrap (Go.bits .and .u8 (gobB m f neg / 8) 3) - 1) = 0 ∧ Go.bits .and .u8 (gobB m f neg / 2) 3 = f ∧ (Go.bits .and .u8 (gobB m f neg) 1 != 0) = neg := by
  have h : m = 0 ∨ m = 1 ∨ m = 2 ∨ m = 3 ∨ m = 4 ∨ m = 5 := by omega
  rcases h with rfl | rfl | rfl | rfl | rfl | rfl <;> rcases hf with rfl | rfl <;> cases neg <;> exact ⟨rfl, rfl, rfl, rfl⟩
set_option maxHeartbeats 3200000 in
set_option maxRecDepth 100000 in
theorem gobDec_spc (g g2 c p : Nat) (m f : Int) (neg : Bool) (w : World) (hz : hp w g = some (.cells #[.int .u32 0, .int .u8 0, .int .i8 0, .int .u8 0, .bool false, .slice none 0 0, .int .i32 0] 91 (0, 0))) (hC : Kd.C (Kd.int .u8) w (some ⟨g2, 0, none⟩) 6 (1 :: gobB m f neg :: be4 p)) (hc : 6 ≤ c) (hf : f = 0 ∨ f = 2) (hpx : p ≤ 600000) (hm : 0 ≤ m ∧ m < 6) :
    Calls Tryd.prog 56 #[.pointer (some ⟨g, 0, none⟩), .slice (some ⟨g2, 0, none⟩) 6 c] w fun e w' => e = .returned .nilIface ∧ Spc w' g p m f neg ∧ Kept (On g) w w' := by
  have hf1 : (f == 1) = false := by rw [beq_eq_false_iff_ne]; omega
  have h0 := C_at hC 0 (by simp)
  have h1 := C_at hC 1 (by simp)
  rw [add_spot] at h0 h1
  have b0 : w.cell? ⟨g2, 0, none⟩ = some (.int .u8 1) := h0
  have b1 : w.cell? ⟨g2, 1, none⟩ = some (.int .u8 (gobB m f neg)) := h1
  obtain ⟨b, hb⟩ : ∃ b, b = gobB m f neg := ⟨_, rfl⟩
  rw [← hb] at b1
  have HBB := Aside0.mk hb
  obtain ⟨c0, c1, c2, c3, c4, c5, c6, f0, f1, f2, f3, f4, f5, f6⟩ := blk7 hz
  have lg := hp_lt hz
  have HZ := Aside0.mk hz
  have HC := Aside0.mk hC
  have hc1 : ¬ c = 2 := by omega
  have hc2 : 2 ≤ c := by omega
  clear hz hC h0 h1 hb
  obtain ⟨d1, d2, d3, d4⟩ := gob_d neg hm hf
  rw [← HBB.out] at d1 d2 d3 d4
  have hgg : g2 ≠ g := not_block b0 HZ.out (by intro u hu; simp at hu; rcases hu with rfl | rfl | rfl | rfl | rfl | rfl | rfl <;> simp)
  go_enter Tryd.func56, Tryd.ntmps56
  go_wp2_with (fail)
  obtain ⟨w1, hw1⟩ : ∃ w1, w1 = (((w.setCell ⟨g, 1, none⟩ (.int .u8 m)).setCell ⟨g, 2, none⟩ (.int .i8 0)).setCell ⟨g, 3, none⟩ (.int .u8 f)).setCell ⟨g, 4, none⟩ (.bool neg) := ⟨_, rfl⟩
  have HK1 : Aside0 (Kept (On g) w w1) := ⟨by rw [hw1]; exact ((((Kept.refl (On g) w).setCell (p := ⟨g, 1, none⟩) (.inl rfl) _).setCell (p := ⟨g, 2, none⟩) (.inl rfl) _).setCell (p := ⟨g, 3, none⟩) (.inl rfl) _).setCell (p := ⟨g, 4, none⟩) (.inl rfl) _⟩
  have HG1 : Aside0 (hp w1 g = some (.cells #[.int .u32 0, .int .u8 m, .int .i8 0, .int .u8 f, .bool neg, .slice none 0 0, .int .i32 0] 91 (0, 0))) := ⟨by rw [hw1, hp_here _ _ _ _ _ rfl, hp_here _ _ _ _ _ rfl, hp_here _ _ _ _ _ rfl, hp_here _ _ _ _ _ rfl, HZ.out]; rfl⟩
  rw [← hw1]
  clear hw1
  have hC1 := C_kept HK1.out HC.out (fun _ e => hgg e)
  have hC2 := C_sub hC1 2 4 (by simp [be4])
  rw [add_spot] at hC2
  have hbe := be32_c (some ⟨g2, 2, none⟩) (c - 2) (be4 p) w1 hC2 (by simp [be4]; omega) (by simp [be4]) (by
    intro d hd
    simp [be4] at hd
    rcases hd with rfl | rfl | rfl | rfl <;> omega)
  have hval : b32 (be4 p) = p := by have := be4_b32 p (by omega) (by omega) []; rwa [List.append_nil] at this
  rw [hval] at hbe
  refine hbe.mono ?_
  rintro e w2 ⟨rfl, hb2⟩
  have hg2 := hp_below HG1.out hb2
  have HG2 := Aside0.mk hg2
  have HK2 := Aside0.mk (HK1.out.trans (Kept.of_below (S := fun _ => False) hb2) (fun _ _ h => h.elim))
  clear c0 c1 c2 c3 c4 c5 c6 f0 f1 f2 f3 f4 f5 f6 b0 b1 hC1 hC2 hbe hval
  obtain ⟨c0, c1, c2, c3, c4, c5, c6, f0, f1, f2, f3, f4, f5, f6⟩ := blk7 hg2
  have lg2 := hp_lt hg2
  clear hg2 hb2
  go_wp2_with (go_in)
  go_ret
  refine ⟨rfl, ?_, HK2.out.setCell (p := ⟨g, 0, none⟩) (.inl rfl) _⟩
  unfold Spc
  rw [hp_here _ _ _ _ _ rfl, HG2.out]
  rfl
end Go.Proofs.YtglikgjaobedbaaDoor.Sp
