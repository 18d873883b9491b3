/-
  CONTRACTS of the thin package's 'Op' (Quo where one is a nought or an infinity).
-/
import Derived.Test.YtglikgjaobedbaaGreatDoorQuoS
import Derived.Test.YtglikgjaobedbaaGreatDoorEnded
import Derived.Test.YtglikgjaobedbaaGreatDoorFresh
import Derived.Test.YtglikgjaobedbaaGreatDoorGexa
namespace Go.Proofs.YtglikgjaobedbaaGreatDoor.Sp
open Go.RowKit Go.Proofs.YtglikgjaobedbaaGreatDoorW.PrintWords Go.Proofs.YtglikgjaobedbaaGreatDoorW.PrintLast Go.Proofs.YtglikgjaobedbaaGreatDoorW.PrintMore Go.Proofs.YtglikgjaobedbaaGreatDoor.Dig
set_option linter.unusedVariables false
set_option linter.unusedSimpArgs false
set_option maxHeartbeats 6400000 in
set_option maxRecDepth 100000 in
theorem op1_c (bx bY bo bz gz p : Nat) (m : Int) (px : Nat) (mx fx fy : Int) (nx ny : Bool) (A : Option Addr) (mm cc : Nat) (ex v : Int) (b n : Nat) (X : List Int) (w : World)
    (kx : hp w bx = some (.cells #[.int .u64 px, .int .i64 mx, .int .i64 fx, .bool nx, .slice A mm cc, .int .i64 ex] 26 (0, 0))) (ky : hp w bY = some (.cells #[.int .u64 5, .int .i64 0, .int .i64 fy, .bool ny, .slice none 0 0, .int .i64 0] 26 (0, 0))) (ko : hp w bo = some (.cells #[.int .i64 3] 3 (0, 0))) (kz : hp w bz = some (.cells #[.pointer (some ⟨gz, 0, none⟩)] 44 (0, 0))) (hz : hp w gz = some (.cells #[.int .u32 p, .int .u8 m, .int .i8 0, .int .u8 0, .bool false, .slice none 0 0, .int .i32 0] 61 (0, 0)))
    (h : ROk w px mx fx A mm cc ex v b n X) (hff : (fx = 0 ∧ fy = 2) ∨ (fx = 1 ∧ fy = 0) ∨ (fx = 1 ∧ fy = 2)) (hp1 : p ≤ 10000) (hp2 : px ≤ 10000) :
    Calls Tryz.prog 22 #[.pointer (some ⟨bx, 0, none⟩), .pointer (some ⟨bY, 0, none⟩), .pointer (some ⟨bo, 0, none⟩), .pointer (some ⟨bz, 0, none⟩)] w fun e w' => e = .returned (.tuple #[]) ∧ (∃ P' : Nat, P' ≤ 100000 ∧ Spc w' gz P' m (qf fx fy) (nx != ny)) ∧ Kept (On gz) w w' := by
  have hfy : fy = 0 ∨ fy = 2 := by omega
  have HX := Aside0.mk (exact_fl px mx fx nx A mm cc ex v b n X w.drew (h.below (below_drew (Below.refl _ _))))
  have hey : ∀ W, Calls Tryz.prog 20 #[.agg #[.int .u64 5, .int .i64 0, .int .i64 fy, .bool ny, .slice none 0 0, .int .i64 0]] W (SpcPost W 5 0 fy ny) := fun W => exact_spc 5 0 fy 0 ny none 0 0 W hfy ⟨by omega, by omega⟩ ⟨by omega, by omega⟩
  have HEY := Aside0.mk hey
  clear hey
  have KX := Aside0.mk kx
  have KY := Aside0.mk ky
  have KO := Aside0.mk ko
  have KZ := Aside0.mk kz
  have HZ := Aside0.mk hz
  obtain ⟨x0, x1, x2, x3, x4, x5, _, _, _, _, _, _⟩ := blk6 kx
  obtain ⟨y0, y1, y2, y3, y4, y5, _, _, _, _, _, _⟩ := blk6 ky
  have lx := hp_lt kx
  have ly := hp_lt ky
  have lz := hp_lt hz
  have HBD : Aside0 (Below w.heap.size w w.drew) := ⟨below_drew (Below.refl _ _)⟩
  clear kx ky ko kz hz h
  go_enter Tryz.func22, Tryz.ntmps22
  go_upto_region 0 with (fail)
  refine start_ (n := 6) (S := fun w' => w'.cell? ⟨bx, 0, none⟩ = some (.int .u64 px) ∧ w'.cell? ⟨bx, 1, none⟩ = some (.int .i64 mx) ∧ w'.cell? ⟨bx, 2, none⟩ = some (.int .i64 fx) ∧ w'.cell? ⟨bx, 3, none⟩ = some (.bool nx) ∧ w'.cell? ⟨bx, 4, none⟩ = some (.slice A mm cc) ∧ w'.cell? ⟨bx, 5, none⟩ = some (.int .i64 ex) ∧ w'.cell? ⟨bY, 0, none⟩ = some (.int .u64 5) ∧ w'.cell? ⟨bY, 1, none⟩ = some (.int .i64 0) ∧ w'.cell? ⟨bY, 2, none⟩ = some (.int .i64 fy) ∧ w'.cell? ⟨bY, 3, none⟩ = some (.bool ny) ∧ w'.cell? ⟨bY, 4, none⟩ = some (.slice none 0 0) ∧ w'.cell? ⟨bY, 5, none⟩ = some (.int .i64 0)) (ds := []) #[false, false, false, false, false, false] (by kernel_rfl) rfl rfl ⟨(by go_simp), (by go_simp), (by go_simp), (by go_simp), (by go_simp), (by go_simp), (by go_simp), (by go_simp), (by go_simp), (by go_simp), (by go_simp), (by go_simp)⟩ (fun hHeld => ?_)
  refine take_ (i := 0) (N := some 6) (v := ?_) (a' := ?_) #[true, false, false, false, false, false] rfl rfl (by kernel_rfl) (fun _ _ _ h => h) (Or.inl ⟨by rfl, ?_⟩) hHeld ?_ ?_
  rotate_left
  · rintro w' ⟨s0, s1, s2, s3, s4, s5, s6, s7, s8, s9, s10, s11⟩
    go_simp
    with_reducible rfl
  rotate_left
  · simp only [Act.put, List.setIfInBounds_toArray, List.set_cons_zero, List.set_cons_succ, i64_w, i32_w]
    rfl
  refine take_ (i := 2) (N := some 8) (v := ?_) (a' := ?_) #[true, false, true, false, false, false] rfl rfl (by kernel_rfl) (fun _ _ _ h => h) (Or.inl ⟨by rfl, ?_⟩) hHeld ?_ ?_
  rotate_left
  · rintro w' ⟨s0, s1, s2, s3, s4, s5, s6, s7, s8, s9, s10, s11⟩
    go_simp
    with_reducible rfl
  rotate_left
  · simp only [Act.put, List.setIfInBounds_toArray, List.set_cons_zero, List.set_cons_succ, i64_w, i32_w]
    rfl
  refine one_ (i := 1) (N := some 7) #[true, true, true, false, false, false] rfl rfl (by kernel_rfl) (by decide) (fun K hK => ?_)
  refine goes_ Tryz.func20 (by kernel_rfl) rfl #[.agg #[.int .u64 px, .int .i64 mx, .int .i64 fx, .bool nx, .slice A mm cc, .int .i64 ex]] (by rfl) rfl rfl (by simp only [List.map_toArray, List.map_cons, List.map_nil]; rfl) ?_
  with_reducible refine (HX.out).mono ?_
  rintro e w1 ⟨gx, rfl, hF, hb1⟩
  refine ⟨_, rfl, ?_⟩
  have HB := Aside0.mk (below_step HBD.out hb1)
  have hgx := hF.ge
  have HF := Aside0.mk hF
  have hs1 : w.heap.size ≤ w1.heap.size := HB.out.size
  clear hF hb1 HX
  refine hK.out _ _ ⟨(blk6 (hp_below KX.out HB.out)).1, (blk6 (hp_below KX.out HB.out)).2.1, (blk6 (hp_below KX.out HB.out)).2.2.1, (blk6 (hp_below KX.out HB.out)).2.2.2.1, (blk6 (hp_below KX.out HB.out)).2.2.2.2.1, (blk6 (hp_below KX.out HB.out)).2.2.2.2.2.1, (blk6 (hp_below KY.out HB.out)).1, (blk6 (hp_below KY.out HB.out)).2.1, (blk6 (hp_below KY.out HB.out)).2.2.1, (blk6 (hp_below KY.out HB.out)).2.2.2.1, (blk6 (hp_below KY.out HB.out)).2.2.2.2.1, (blk6 (hp_below KY.out HB.out)).2.2.2.2.2.1⟩ (fun hHeld => ?_)
  clear hK K
  refine norm_ (a' := ?_) ?_ ?_
  rotate_left
  · show Act.put _ (some 7) _ = _
    simp only [Act.put, List.setIfInBounds_toArray, List.set_cons_zero, List.set_cons_succ, i64_w, i32_w]
    rfl
  refine one_ (i := 3) (N := some 9) #[true, true, true, true, false, false] rfl rfl (by kernel_rfl) (by decide) (fun K hK => ?_)
  refine goes_ Tryz.func20 (by kernel_rfl) rfl #[.agg #[.int .u64 5, .int .i64 0, .int .i64 fy, .bool ny, .slice none 0 0, .int .i64 0]] (by rfl) rfl rfl (by simp only [List.map_toArray, List.map_cons, List.map_nil]; rfl) ?_
  with_reducible refine (HEY.out w1).mono ?_
  rintro e w2 ⟨gy, hgy, rfl, hS, hb2⟩
  refine ⟨_, rfl, ?_⟩
  replace HB := Aside0.mk (below_step HB.out hb2)
  have HF2 := Aside0.mk (HF.out.below hb2)
  have HS := Aside0.mk hS
  clear hS hb2 HF
  refine hK.out _ _ ⟨(blk6 (hp_below KX.out HB.out)).1, (blk6 (hp_below KX.out HB.out)).2.1, (blk6 (hp_below KX.out HB.out)).2.2.1, (blk6 (hp_below KX.out HB.out)).2.2.2.1, (blk6 (hp_below KX.out HB.out)).2.2.2.2.1, (blk6 (hp_below KX.out HB.out)).2.2.2.2.2.1, (blk6 (hp_below KY.out HB.out)).1, (blk6 (hp_below KY.out HB.out)).2.1, (blk6 (hp_below KY.out HB.out)).2.2.1, (blk6 (hp_below KY.out HB.out)).2.2.2.1, (blk6 (hp_below KY.out HB.out)).2.2.2.2.1, (blk6 (hp_below KY.out HB.out)).2.2.2.2.2.1⟩ (fun hHeld => ?_)
  clear hK K
  refine norm_ (a' := ?_) ?_ ?_
  rotate_left
  · show Act.put _ (some 9) _ = _
    simp only [Act.put, List.setIfInBounds_toArray, List.set_cons_zero, List.set_cons_succ, i64_w, i32_w]
    rfl
  refine pure_ (i := 4) (N := some 4) (v := ?_) (a' := ?_) #[true, true, true, true, true, false] rfl rfl (by kernel_rfl) (fun _ _ _ h => h) (Or.inl ⟨by rfl, ?_⟩) ?_ ?_
  rotate_left
  · intro w'
    go_simp
    with_reducible rfl
  rotate_left
  · simp only [Act.put, List.setIfInBounds_toArray, List.set_cons_zero, List.set_cons_succ, i64_w, i32_w]
    rfl
  refine pure_ (i := 5) (N := some 5) (v := ?_) (a' := ?_) #[true, true, true, true, true, true] rfl rfl (by kernel_rfl) (fun _ _ _ h => h) (Or.inl ⟨by rfl, ?_⟩) ?_ ?_
  rotate_left
  · intro w'
    go_simp
    with_reducible rfl
  rotate_left
  · simp only [Act.put, List.setIfInBounds_toArray, List.set_cons_zero, List.set_cons_succ, i64_w, i32_w]
    rfl
  refine done_ (by kernel_rfl) ?_
  obtain ⟨V, E, hcx⟩ := HF2.out.cells
  have ho2 := hp_below KO.out HB.out
  have hz2 := hp_below KZ.out HB.out
  have HQ := Aside0.mk (quo_any gz gx gy p px 5 m mx fx fy 0 0 0 E 0 nx ny V (.slice none 0 0) w2 (hp_below HZ.out HB.out) hcx HS.out.blk (by have : w.heap.size ≤ gx := hgx; omega) (by omega) hff (by omega) hp2 (by omega))
  obtain ⟨o0, _⟩ := blk1 ho2
  obtain ⟨q0, _⟩ := blk1 hz2
  clear hcx ho2 hz2 HF2 HS KX KY KO KZ HZ x0 x1 x2 x3 x4 x5 y0 y1 y2 y3 y4 y5
  go_wp2_with (fail)
  refine (HQ.out).mono ?_
  rintro e w3 ⟨P', hP', rfl, hk, hs⟩
  have HK := Aside0.mk (Kept.trans (Kept.of_below (S := On gz) HB.out) hk (fun _ _ h => h))
  have HS3 := Aside0.mk hs
  clear hk hs HQ
  go_wp2_with (fail)
  refine bodyPost_end (v := .tuple #[]) (by simp [results, Tryz.results22, go_sem]) rfl ?_
  exact ⟨rfl, ⟨P', hP', HS3.out⟩, HK.out⟩
end Go.Proofs.YtglikgjaobedbaaGreatDoor.Sp
