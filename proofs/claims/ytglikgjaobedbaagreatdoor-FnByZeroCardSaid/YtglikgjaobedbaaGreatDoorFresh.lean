/-
  CONTRACT of the thin package's 'fresh'.
-/
import Derived.Test.YtglikgjaobedbaaGreatDoorGnat
namespace Go.Proofs.YtglikgjaobedbaaGreatDoor.Sp
open Go.RowKit Go.Proofs.YtglikgjaobedbaaGreatDoorW.PrintWords Go.Proofs.YtglikgjaobedbaaGreatDoorW.PrintLast Go.Proofs.YtglikgjaobedbaaGreatDoorW.PrintMore Go.Proofs.YtglikgjaobedbaaGreatDoor.Dig
set_option linter.unusedVariables false
set_option linter.unusedSimpArgs false
theorem hp_keep {w w' : World} {k B : Nat} {o : Obj} (h : hp w k = some o) (hb : Below B w w') (hk : k < B) : hp w' k = some o := (hb.block k hk).trans h
set_option maxHeartbeats 3200000 in
set_option maxRecDepth 100000 in
theorem fresh_z (p m : Int) (w : World) (hpx : 0 ≤ p ∧ p ≤ 4000000) (hm : 0 ≤ m ∧ m < 6) : Calls Tryz.prog 16 #[.int .u64 p, .int .i64 m] w fun e w' => e = .returned (.pointer (some ⟨w.heap.size, 0, none⟩)) ∧ hp w' w.heap.size = some (.cells #[.int .u32 p, .int .u8 m, .int .i8 0, .int .u8 0, .bool false, .slice none 0 0, .int .i32 0] 61 (0, 0)) ∧ Below w.heap.size w w' := by
  have hpd : decide ((4294967295 : Int) < p) = false := decide_eq_false (by omega)
  have hmw : IntKind.u8.wrap m = m := by rw [IntKind.wrap_u8']; omega
  have hpw : IntKind.u32.wrap p = p := by rw [IntKind.wrap_u32']; omega
  have HB : Aside0 (Below w.heap.size w w) := ⟨Below.refl _ _⟩
  by_cases h0 : p = 0
  · subst h0
    go_enter Tryz.func16, Tryz.ntmps16
    go_wp2_with (go_in)
    go_ret
    exact ⟨rfl, (by simp (disch := first | omega | (simp; omega) | (simp; done) | fail) [hp_new, hp_old, hp_here, hp_other, setObj_cells, hp_drew, hp_drewN]), (by repeat (first | (with_reducible first | exact HB.out | apply below_alloc | apply pw_below_drewN | apply below_drew1 | refine below_set ?_ (by simp)) | exact HB.out))⟩
  · have hpb : (p == 0) = false := by rw [beq_eq_false_iff_ne]; exact h0
    go_enter Tryz.func16, Tryz.ntmps16
    go_wp2_with (go_in)
    go_ret
    exact ⟨rfl, (by simp (disch := first | omega | (simp; omega) | (simp; done) | fail) [hp_new, hp_old, hp_here, hp_other, setObj_cells, hp_drew, hp_drewN]), (by repeat (first | (with_reducible first | exact HB.out | apply below_alloc | apply pw_below_drewN | apply below_drew1 | refine below_set ?_ (by simp)) | exact HB.out))⟩
end Go.Proofs.YtglikgjaobedbaaGreatDoor.Sp
