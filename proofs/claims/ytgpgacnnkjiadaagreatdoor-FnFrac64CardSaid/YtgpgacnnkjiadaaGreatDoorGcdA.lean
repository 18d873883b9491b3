/-
  CONTRACTS: numbers of one word: nat.set, Int.Set and Int.Abs into an Int of the call's own.
-/
import Derived.Test.YtgpgacnnkjiadaaGreatDoorNatAr
import Derived.Test.YtgpgacnnkjiadaaGreatDoorNatCmp
import Derived.Test.YtgpgacnnkjiadaaGreatDoorWLast
import Derived.Deep.RegionHeld3
namespace Go.Proofs.YtgpgacnnkjiadaaGreatDoor.Sp
open Go.RowKit Go.Proofs.YtgpgacnnkjiadaaGreatDoorW.PrintWords Go.Proofs.YtgpgacnnkjiadaaGreatDoorW.PrintLast Go.Proofs.YtgpgacnnkjiadaaGreatDoorW.PrintMore Go.Proofs.YtgpgacnnkjiadaaGreatDoor.Dig
set_option linter.unusedVariables false
set_option linter.unusedSimpArgs false
/-- A number of one word at the head of block k. -/
def One (w : World) (k : Nat) (v : Value) (x : Int) : Prop := ∃ R, v = .slice (some ⟨k, 0, none⟩) 1 (x :: R).length ∧ hp w k = some (.cells (u64s (x :: R)) 67 (0, 0)) ∧ okd BW (x :: R) ∧ (x :: R).length ≤ 1000000
theorem One.kept {w w' : World} {S : Nat → Prop} {k : Nat} {v : Value} {x : Int} (h : One w k v x) (hk : Kept S w w') (hS : ¬ S k) : One w' k v x := by
  obtain ⟨R, h1, h2, h3, h4⟩ := h
  exact ⟨R, h1, hp_kept h2 hk hS, h3, h4⟩
theorem One.below {w w' : World} {k : Nat} {v : Value} {x : Int} (h : One w k v x) (hb : Below w.heap.size w w') : One w' k v x := h.kept (S := fun _ => False) (Kept.of_below hb) (fun h => h)
theorem One.lt {w : World} {k : Nat} {v : Value} {x : Int} (h : One w k v x) : k < w.heap.size := by
  obtain ⟨R, h1, h2, h3, h4⟩ := h
  exact hp_lt h2
theorem One.ok {w : World} {k : Nat} {v : Value} {x : Int} (h : One w k v x) : 0 ≤ x ∧ x < BW := by
  obtain ⟨R, h1, h2, h3, h4⟩ := h
  exact h3 x List.mem_cons_self
theorem One.C {w : World} {k : Nat} {v : Value} {x : Int} (h : One w k v x) : Kd.C (Kd.int .u64) w (some ⟨k, 0, none⟩) ([x] : List Int).length [x] := by
  obtain ⟨R, h1, h2, h3, h4⟩ := h
  exact row_C (L := [x]) (R := R) h2 h4
theorem One.slice {w : World} {k : Nat} {v : Value} {x : Int} (h : One w k v x) : ∃ c, v = .slice (some ⟨k, 0, none⟩) 1 c ∧ 1 ≤ c := by
  obtain ⟨R, h1, h2, h3, h4⟩ := h
  exact ⟨_, h1, by simp⟩
theorem One.nr {w : World} {k : Nat} {v : Value} {x : Int} (h : One w k v x) (h0 : 0 < x) : NR w (On k) v x := by
  have hx := h.ok
  obtain ⟨R, h1, h2, h3, h4⟩ := h
  refine .inr ⟨k, [x], R, h1, h2, h3, ⟨okd_cons.2 ⟨hx, okd_nil _⟩, fun d hd => by simp at hd; omega⟩, by rw [ev_cons, ev_nil]; simp, rfl, h4⟩
theorem NR.one {w : World} {P : Nat → Prop} {v : Value} {x : Int} (h : NR w P v x) (h0 : 0 < x) (h1 : x < BW) : ∃ k, P k ∧ One w k v x := by
  rcases h with ⟨_, h⟩ | ⟨mb, L, R, e1, e2, e3, e4, e5, e6, e7⟩
  · omega
  · have hl : L.length ≤ 1 := by
      rcases Nat.lt_or_ge 1 L.length with h | h
      · have h3 := Cn_len_ge e4 BW_pos (by intro e; subst e; simp at h)
        have h4 : (BW : Int) ^ 1 ≤ BW ^ (L.length - 1) := pow_mono BW_pos (by omega)
        rw [Int.pow_one] at h4
        omega
      · exact h
    have hl2 : 0 < L.length := by
      rcases Nat.eq_zero_or_pos L.length with h | h
      · rw [List.eq_nil_of_length_eq_zero h, ev_nil] at e5; omega
      · exact h
    match L, hl, hl2 with
    | [y], _, _ =>
      rw [ev_cons, ev_nil] at e5
      have : y = x := by omega
      subst this
      exact ⟨mb, e6, R, e1, e2, e3, e7⟩
theorem set1_c (k c : Nat) (v : Value) (x : Int) (w : World) (h : One w k v x) :
    Calls Tryz.prog 64 #[.slice none 0 0, v] w fun e w' => ∃ c', e = .returned (.slice (some ⟨w.heap.size, 0, none⟩) 1 c') ∧ One w' w.heap.size (.slice (some ⟨w.heap.size, 0, none⟩) 1 c') x ∧ Below w.heap.size w w' := by
  have hC := h.C
  have hl := h.lt
  have hk := h.ok
  obtain ⟨c, rfl, _⟩ := h.slice
  refine (set_c (.slice none 0 0) (fun _ => False) ⟨k, 0, none⟩ c [x] w (.inl rfl) hC (okd_cons.2 ⟨hk, okd_nil _⟩) (by simp) (by simp) (fun h => h) hl).mono ?_
  rintro e w' ⟨mb, R, c', rfl, h1, h2, h3, h4, h5, h6⟩
  have e1 : mb = w.heap.size := by rcases h3 with h | h; exact h.elim; exact h
  subst e1
  exact ⟨c', rfl, ⟨R, by rw [← h1]; simp, h4, h5, by simp at h1; simp; omega⟩, h6.below (fun i h => h.elim) (Nat.le_refl _)⟩
set_option maxHeartbeats 1600000 in
set_option maxRecDepth 100000 in
theorem intSet1_c (z b o m : Nat) (bz nx : Bool) (v : Value) (x : Int) (cb : Array Value) (tb : TypeId) (w : World) (hz : hp w z = some (.cells #[.bool bz, .slice none 0 0] 38 (0, 0))) (hb : hp w b = some (.cells cb tb (0, 0))) (hne : z ≠ b) (hb0 : cb[o]? = some (.bool nx)) (hb1 : cb[o + 1]? = some v) (h : One w m v x) :
    Calls Tryz.prog 58 #[.pointer (some ⟨z, 0, none⟩), .pointer (some ⟨b, o, none⟩)] w fun e w' => e = .returned (.pointer (some ⟨z, 0, none⟩)) ∧ ∃ c', hp w' z = some (.cells #[.bool nx, .slice (some ⟨w.heap.size, 0, none⟩) 1 c'] 38 (0, 0)) ∧ One w' w.heap.size (.slice (some ⟨w.heap.size, 0, none⟩) 1 c') x ∧ Kept (On z) w w' := by
  have hq := neq_other 53 38 Tryz.underlying53 infoInt (by decide) (a := ⟨z, 0, none⟩) (b := ⟨b, o, none⟩) (w := w) (by simp [hne]) hz hb
  have HX := Aside0.mk h
  obtain ⟨c, rfl, _⟩ := h.slice
  have x0 : w.cell? ⟨b, o, none⟩ = some (.bool nx) := (blk_cell hb o).trans hb0
  have x1 : w.cell? ⟨b, o + 1, none⟩ = some (.slice (some ⟨m, 0, none⟩) 1 c) := (blk_cell hb (o + 1)).trans hb1
  obtain ⟨z0, z1, fz0, fz1⟩ := blk2 hz
  have lz := hp_lt hz
  have lb := hp_lt hb
  have hne' : b ≠ z := fun e => hne e.symm
  have HZ := Aside0.mk hz
  clear hz hb hb0 hb1 h
  go_enter Tryz.func58, Tryz.ntmps58
  go_wp2_with (fail)
  refine start_ (n := 13) (S := fun w' => w'.cell? ⟨z, 1, none⟩ = some (.slice none 0 0) ∧ w'.cell? ⟨b, o + 1, none⟩ = some (.slice (some ⟨m, 0, none⟩) 1 c)) (ds := [12]) #[false, false, false, false, false, false, false, false, false, false, false, false, false] (by kernel_rfl) rfl rfl ⟨(by go_simp), (by go_simp)⟩ (fun hHeld => ?_)
  refine pure_ (i := 0) (N := some 8) (v := ?_) (a' := ?_) #[true, false, false, false, false, false, false, false, false, false, false, false, false] rfl rfl (by kernel_rfl) (fun _ _ _ h => h) (Or.inl ⟨by rfl, ?_⟩) ?_ ?_
  rotate_left
  · intro w'
    go_simp
    with_reducible rfl
  rotate_left
  · simp only [Act.put, List.setIfInBounds_toArray, List.set_cons_zero, List.set_cons_succ, i64_w, i32_w]
    rfl
  refine pure_ (i := 1) (N := some 9) (v := ?_) (a' := ?_) #[true, true, false, false, false, false, false, false, false, false, false, false, false] rfl rfl (by kernel_rfl) (fun _ _ _ h => h) (Or.inl ⟨by rfl, ?_⟩) ?_ ?_
  rotate_left
  · intro w'
    go_simp
    with_reducible rfl
  rotate_left
  · simp only [Act.put, List.setIfInBounds_toArray, List.set_cons_zero, List.set_cons_succ, i64_w, i32_w]
    rfl
  refine pure_ (i := 2) (N := some 10) (v := ?_) (a' := ?_) #[true, true, true, false, false, false, false, false, false, false, false, false, false] rfl rfl (by kernel_rfl) (fun _ _ _ h => h) (Or.inl ⟨by rfl, ?_⟩) ?_ ?_
  rotate_left
  · intro w'
    go_simp
    with_reducible rfl
  rotate_left
  · simp only [Act.put, List.setIfInBounds_toArray, List.set_cons_zero, List.set_cons_succ, i64_w, i32_w]
    rfl
  refine pure_ (i := 3) (N := some 11) (v := ?_) (a' := ?_) #[true, true, true, true, false, false, false, false, false, false, false, false, false] rfl rfl (by kernel_rfl) (fun _ _ _ h => h) (Or.inl ⟨by rfl, ?_⟩) ?_ ?_
  rotate_left
  · intro w'
    go_simp
    with_reducible rfl
  rotate_left
  · simp only [Act.put, List.setIfInBounds_toArray, List.set_cons_zero, List.set_cons_succ, i64_w, i32_w]
    rfl
  refine pure_ (i := 5) (N := some 13) (v := ?_) (a' := ?_) #[true, true, true, true, false, true, false, false, false, false, false, false, false] rfl rfl (by kernel_rfl) (fun _ _ _ h => h) (Or.inl ⟨by rfl, ?_⟩) ?_ ?_
  rotate_left
  · intro w'
    go_simp
    with_reducible rfl
  rotate_left
  · simp only [Act.put, List.setIfInBounds_toArray, List.set_cons_zero, List.set_cons_succ, i64_w, i32_w]
    rfl
  refine pure_ (i := 6) (N := some 14) (v := ?_) (a' := ?_) #[true, true, true, true, false, true, true, false, false, false, false, false, false] rfl rfl (by kernel_rfl) (fun _ _ _ h => h) (Or.inl ⟨by rfl, ?_⟩) ?_ ?_
  rotate_left
  · intro w'
    go_simp
    with_reducible rfl
  rotate_left
  · simp only [Act.put, List.setIfInBounds_toArray, List.set_cons_zero, List.set_cons_succ, i64_w, i32_w]
    rfl
  refine pure_ (i := 7) (N := some 15) (v := ?_) (a' := ?_) #[true, true, true, true, false, true, true, true, false, false, false, false, false] rfl rfl (by kernel_rfl) (fun _ _ _ h => h) (Or.inl ⟨by rfl, ?_⟩) ?_ ?_
  rotate_left
  · intro w'
    go_simp
    with_reducible rfl
  rotate_left
  · simp only [Act.put, List.setIfInBounds_toArray, List.set_cons_zero, List.set_cons_succ, i64_w, i32_w]
    rfl
  refine take_ (i := 4) (N := some 12) (v := ?_) (a' := ?_) #[true, true, true, true, true, true, true, true, false, false, false, false, false] rfl rfl (by kernel_rfl) (fun _ _ _ h => h) (Or.inl ⟨by rfl, ?_⟩) hHeld ?_ ?_
  rotate_left
  · rintro w' ⟨s0, s1⟩
    go_simp
    with_reducible rfl
  rotate_left
  · simp only [Act.put, List.setIfInBounds_toArray, List.set_cons_zero, List.set_cons_succ, i64_w, i32_w]
    rfl
  refine take_ (i := 8) (N := some 16) (v := ?_) (a' := ?_) #[true, true, true, true, true, true, true, true, true, false, false, false, false] rfl rfl (by kernel_rfl) (fun _ _ _ h => h) (Or.inl ⟨by rfl, ?_⟩) hHeld ?_ ?_
  rotate_left
  · rintro w' ⟨s0, s1⟩
    go_simp
    with_reducible rfl
  rotate_left
  · simp only [Act.put, List.setIfInBounds_toArray, List.set_cons_zero, List.set_cons_succ, i64_w, i32_w]
    rfl
  refine one_ (i := 9) (N := some 17) #[true, true, true, true, true, true, true, true, true, true, false, false, false] rfl rfl (by kernel_rfl) (by decide) (fun K hK => ?_)
  refine goes_ Tryz.func64 (by kernel_rfl) rfl #[.slice none 0 0, .slice (some ⟨m, 0, none⟩) 1 c] (by rfl) rfl rfl (by simp only [List.map_toArray, List.map_cons, List.map_nil]; rfl) ?_
  with_reducible refine (set1_c m c (.slice (some ⟨m, 0, none⟩) 1 c) x _ (HX.out.below (below_drew (Below.refl _ _)))).mono ?_
  rintro e w1 ⟨c1, rfl, hv, hb1⟩
  refine ⟨_, rfl, ?_⟩
  have HV := Aside0.mk hv
  have HB := Aside0.mk (show Below w.heap.size w w1 from Below.trans (below_drew (Below.refl _ _)) hb1)
  have q0 := (hb1.cell (p := ⟨z, 1, none⟩) lz).trans hHeld.1
  have q1 := (hb1.cell (p := ⟨b, o + 1, none⟩) lb).trans hHeld.2
  have r0 := (HB.out.cell (p := ⟨z, 0, none⟩) lz).trans z0
  have r1 := (HB.out.cell (p := ⟨b, o, none⟩) lb).trans x0
  have g0 := (HB.out.frozen (p := ⟨z, 0, none⟩) lz).trans fz0
  have g1 := (HB.out.frozen (p := ⟨z, 1, none⟩) lz).trans fz1
  have HZ1 := Aside0.mk (hp_below HZ.out HB.out)
  clear hv hb1 x0 x1 z0 z1 fz0 fz1 hq HZ
  refine hK.out _ _ ⟨q0, q1⟩ (fun hHeld => ?_)
  clear hK K
  refine norm_ (a' := ?_) ?_ ?_
  rotate_left
  · show Act.put _ (some 17) _ = _
    simp only [Act.put, List.setIfInBounds_toArray, List.set_cons_zero, List.set_cons_succ, i64_w, i32_w]
    rfl
  refine pure_ (i := 10) (N := some 18) (v := ?_) (a' := ?_) #[true, true, true, true, true, true, true, true, true, true, true, false, false] rfl rfl (by kernel_rfl) (fun _ _ _ h => h) (Or.inl ⟨by rfl, ?_⟩) ?_ ?_
  rotate_left
  · intro w'
    go_simp
    with_reducible rfl
  rotate_left
  · simp only [Act.put, List.setIfInBounds_toArray, List.set_cons_zero, List.set_cons_succ, i64_w, i32_w]
    rfl
  refine pure_ (i := 11) (N := some 19) (v := ?_) (a' := ?_) #[true, true, true, true, true, true, true, true, true, true, true, true, false] rfl rfl (by kernel_rfl) (fun _ _ _ h => h) (Or.inl ⟨by rfl, ?_⟩) ?_ ?_
  rotate_left
  · intro w'
    go_simp
    with_reducible rfl
  rotate_left
  · simp only [Act.put, List.setIfInBounds_toArray, List.set_cons_zero, List.set_cons_succ, i64_w, i32_w]
    rfl
  refine last_ (i := 12) (N := none) #[true, true, true, true, true, true, true, true, true, true, true, true, true] rfl rfl (by kernel_rfl) (by decide) (fun K hK => ?_)
  refine skip_ (w1 := ?_) (by rfl) rfl ?_ ?_
  rotate_left
  · go_simp
    rfl
  refine hK.out _ _ ?_
  clear hK K
  refine done_ (by kernel_rfl) ?_
  go_wp2_with (fail)
  go_ret
  refine ⟨rfl, c1, ?_, ?_, ?_⟩
  · rw [hp_here _ _ _ _ _ rfl, hp_here _ _ _ _ _ rfl, HZ1.out]
    rfl
  · obtain ⟨R, h1, h2, h3, h4⟩ := HV.out
    have hn : z ≠ w.heap.size := by omega
    exact ⟨R, h1, by rw [hp_other _ _ _ _ hn, hp_other _ _ _ _ hn]; exact h2, h3, h4⟩
  · exact ((Kept.of_below (S := On z) HB.out).setCell (p := ⟨z, 1, none⟩) (.inl rfl) _).setCell (p := ⟨z, 0, none⟩) (.inl rfl) _
set_option maxHeartbeats 1600000 in
set_option maxRecDepth 100000 in
theorem abs1_c (z b o m : Nat) (bz nx : Bool) (v : Value) (x : Int) (cb : Array Value) (tb : TypeId) (w : World) (hz : hp w z = some (.cells #[.bool bz, .slice none 0 0] 38 (0, 0))) (hb : hp w b = some (.cells cb tb (0, 0))) (hne : z ≠ b) (hb0 : cb[o]? = some (.bool nx)) (hb1 : cb[o + 1]? = some v) (h : One w m v x) :
    Calls Tryz.prog 51 #[.pointer (some ⟨z, 0, none⟩), .pointer (some ⟨b, o, none⟩)] w fun e w' => e = .returned (.pointer (some ⟨z, 0, none⟩)) ∧ ∃ c', hp w' z = some (.cells #[.bool false, .slice (some ⟨w.heap.size, 0, none⟩) 1 c'] 38 (0, 0)) ∧ One w' w.heap.size (.slice (some ⟨w.heap.size, 0, none⟩) 1 c') x ∧ Kept (On z) w w' := by
  have HS := Aside0.mk (intSet1_c z b o m bz nx v x cb tb w hz hb hne hb0 hb1 h)
  have lz := hp_lt hz
  clear hz hb hb0 hb1 h
  go_enter Tryz.func51, Tryz.ntmps51
  go_wp2_with (fail)
  refine (HS.out).mono ?_
  rintro e w1 ⟨rfl, c1, h1, h2, h3⟩
  obtain ⟨z0, z1, fz0, fz1⟩ := blk2 h1
  have H1 := Aside0.mk h1
  have H2 := Aside0.mk h2
  have H3 := Aside0.mk h3
  clear h1 h2 h3 HS
  go_wp2_with (fail)
  go_ret
  refine ⟨rfl, c1, ?_, ?_, ?_⟩
  · rw [hp_here _ _ _ _ _ rfl, H1.out]
    rfl
  · obtain ⟨R, h1, h2, h3, h4⟩ := H2.out
    have hn : z ≠ w.heap.size := by omega
    exact ⟨R, h1, by rw [hp_other _ _ _ _ hn]; exact h2, h3, h4⟩
  · exact H3.out.setCell (p := ⟨z, 0, none⟩) (.inl rfl) _
end Go.Proofs.YtgpgacnnkjiadaaGreatDoor.Sp
