/-
  CONTRACT of the thin package's 'ended': a call that returns.
-/
import Derived.Test.YtglikgjaobedbaaDoorBase
import Derived.Test.YtglikgjaobedbaaDoorGnat
import Derived.Tactics
import Derived.Tactics2
import Derived.Defers
import Derived.Recover
import Derived.Laws.Pointers
import Derived.WalkKit
namespace Go.Proofs.YtglikgjaobedbaaDoor.Sp
open Go.RowKit Go.Proofs.YtglikgjaobedbaaDoorW.PrintWords Go.Proofs.YtglikgjaobedbaaDoorW.PrintLast Go.Proofs.YtglikgjaobedbaaDoorW.PrintMore
set_option linter.unusedVariables false
set_option linter.unusedSimpArgs false
set_option maxRecDepth 100000 in
theorem caught_idle (p : Addr) (w : World) :
    CallsD Tryd.prog 65 #[.pointer (some p)] .returning w fun e u' w' => e = .returned (.tuple #[]) ∧ u' = .returning ∧ w' = w := by
  refine callsD_of_wpS Tryd.func65 rfl fun c₀ cs hu => ?_
  apply wpS_seq
  apply wpS_region
  simp [wpOpsS, go_sem, recoverD, hu, Tryd.ntmps65, Exit.thenS]
  refine wpS_of_wp ?_
  go_wp2_with (fail)
  cases c₀
  simp_all [bodyPostS, results, Tryd.results65]
set_option maxHeartbeats 1600000 in
set_option maxRecDepth 100000 in
/-- The closure returns: 'ended' tells 0. -/
theorem ended_FromBits (cap : Array Value) (w : World) (S : Nat → Prop) (R : World → Prop) (hS : ¬ S w.heap.size) (hF : Calls Tryd.prog 37 cap (w.alloc (.cells #[.int .i64 0] 3)) fun e w' => e = .returned (.tuple #[]) ∧ R w' ∧ Sp.Kept S (w.alloc (.cells #[.int .i64 0] 3)) w') :
    Calls Tryd.prog 36 #[.func (.func 37) #[] cap] w fun e w' => e = .returned (.int .i64 0) ∧ ∃ w1, R w1 ∧ Sp.Kept S (w.alloc (.cells #[.int .i64 0] 3)) w1 ∧ w' = w1.setCell ⟨w.heap.size, 0, none⟩ (.int .i64 0) := by
  have hmf : ∀ (fn : Fn) (first cap : Array Value) (w : World), (Instr.makeFunc fn first cap).run Tryd.prog w = .ok (.func fn first cap) w := fun _ _ _ _ => rfl
  go_enter_defers Tryd.func36, Tryd.ntmps36
  go_wp2_with (fail)
  refine hF.mono ?_
  rintro e w1 ⟨rfl, hR, hb⟩
  have k0 : hp w1 w.heap.size = some (.cells #[.int .i64 0] 3 (0, 0)) := hp_kept (hp_new _ _ _ rfl) hb hS
  have c0 : w1.cell? ⟨w.heap.size, 0, none⟩ = some (.int .i64 0) := blk_cell k0 0
  have f0 : w1.frozen? ⟨w.heap.size, 0, none⟩ = false := blk_frozen k0 0
  have l0 := hp_lt k0
  have HR := Aside0.mk hR
  have HB := Aside0.mk hb
  clear hR hb hF k0
  go_wp2_with (fail)
  refine leaves_cons (f := 65) (args := #[.pointer (some ⟨w.heap.size, 0, none⟩)]) (by simp) (by simp [go_sem]) ?_
  refine (caught_idle ⟨w.heap.size, 0, none⟩ _).mono ?_
  rintro e u' w'' ⟨rfl, rfl, rfl⟩
  simp [Leaves, settle, results, Tryd.results36, go_sem, c0, f0]
  exact ⟨w1, HR.out, HB.out, rfl⟩
end Go.Proofs.YtglikgjaobedbaaDoor.Sp
