/-
  Several texts in one (merged by program).
-/
import Derived.Test.YtgpgacnnkjiadaaGreatDoorBase
import Derived.Test.YtgpgacnnkjiadaaGreatDoorKept
import Derived.Tactics
import Derived.Tactics2
import Derived.Defers
import Derived.Recover
import Derived.Laws.Pointers
import Derived.WalkKit
import Derived.WalkLawsBesides
/-! ## Caught -/
section
namespace Go.Proofs.YtgpgacnnkjiadaaGreatDoor.Sp
open Go.RowKit Go.Proofs.YtgpgacnnkjiadaaGreatDoorW.PrintWords Go.Proofs.YtgpgacnnkjiadaaGreatDoorW.PrintLast Go.Proofs.YtgpgacnnkjiadaaGreatDoorW.PrintMore
set_option linter.unusedVariables false
set_option linter.unusedSimpArgs false
/-- The chain of a panic with ErrNaN. -/
def nanChain (s : ByteArray) (b : Bool) : List PanicEntry := [{ v := .iface 51 (.agg #[.string s]), recovered := b }]
set_option maxHeartbeats 1600000 in
set_option maxRecDepth 100000 in
theorem caught_nan (b o : Nat) (s : ByteArray) (w : World) (h0 : w.cell? ⟨b, o, none⟩ = some (.int .i64 0)) (f0 : w.frozen? ⟨b, o, none⟩ = false) :
    CallsD Tryz.prog 17 #[.pointer (some ⟨b, o, none⟩)] (.panicking (nanChain s false)) w fun e u' w' => e = .returned (.tuple #[]) ∧ u' = .panicking (nanChain s true) ∧ w' = (((w.setCell ⟨b, o, none⟩ (.int .i64 2)).setCell ⟨b, o, none⟩ (.int .i64 1)).alloc (.cells #[.string s] 51)) := by
  refine callsD_of_wpS Tryz.func17 rfl fun c₀ cs hu => ?_
  have hu2 := Tryz.underlying51
  have hlt := World.block_lt_of_cell? w _ h0
  have hta : ∀ W : World, (Instr.typeAssert (.iface 51 (.agg #[.string s])) 20 51 true).run Tryz.prog W = .ok (.tuple #[.agg #[.string s], .bool true]) W := fun W => by
    simp [Instr.typeAssert, go_sem, hu2]
  simp only [Tryz.ntmps17, List.size_toArray, List.length_cons, List.length_nil, Nat.reduceAdd, Nat.reduceSub, Array.replicate_succ, Array.replicate_zero, List.push_toArray, List.append_toArray, List.nil_append, List.cons_append]
  apply wpS_seq
  apply wpS_region
  simp [wpOpsS, go_sem, recoverD, hu, nanChain, Tryz.ntmps17, Exit.thenS]
  refine wpS_of_wp ?_
  go_wp2_with (fail)
  exact ⟨rfl, _, rfl, .tuple #[], by simp [results, Tryz.results17, go_sem], rfl, rfl, rfl⟩
end Go.Proofs.YtgpgacnnkjiadaaGreatDoor.Sp
end

/-! ## Ended -/
section
namespace Go.Proofs.YtgpgacnnkjiadaaGreatDoor.Sp
open Go.RowKit Go.Proofs.YtgpgacnnkjiadaaGreatDoorW.PrintWords Go.Proofs.YtgpgacnnkjiadaaGreatDoorW.PrintLast Go.Proofs.YtgpgacnnkjiadaaGreatDoorW.PrintMore
set_option linter.unusedVariables false
set_option linter.unusedSimpArgs false
set_option maxRecDepth 100000 in
theorem caught_idle (p : Addr) (w : World) :
    CallsD Tryz.prog 17 #[.pointer (some p)] .returning w fun e u' w' => e = .returned (.tuple #[]) ∧ u' = .returning ∧ w' = w := by
  refine callsD_of_wpS Tryz.func17 rfl fun c₀ cs hu => ?_
  apply wpS_seq
  apply wpS_region
  simp [wpOpsS, go_sem, recoverD, hu, Tryz.ntmps17, Exit.thenS]
  refine wpS_of_wp ?_
  go_wp2_with (fail)
  cases c₀
  simp_all [bodyPostS, results, Tryz.results17]
end Go.Proofs.YtgpgacnnkjiadaaGreatDoor.Sp
end

/-! ## EndF -/
section
namespace Go.Proofs.YtgpgacnnkjiadaaGreatDoor.Sp
open Go.RowKit Go.Proofs.YtgpgacnnkjiadaaGreatDoorW.PrintWords Go.Proofs.YtgpgacnnkjiadaaGreatDoorW.PrintLast Go.Proofs.YtgpgacnnkjiadaaGreatDoorW.PrintMore
set_option linter.unusedVariables false
set_option linter.unusedSimpArgs false
/-- The chain of a panic with a text. -/
def strChain (s : ByteArray) (b : Bool) : List PanicEntry := [{ v := .iface 9 (.string s), recovered := b }]
set_option maxHeartbeats 1600000 in
set_option maxRecDepth 100000 in
theorem caught_str (b o : Nat) (s : ByteArray) (w : World) (h0 : w.cell? ⟨b, o, none⟩ = some (.int .i64 0)) (f0 : w.frozen? ⟨b, o, none⟩ = false) :
    CallsD Tryz.prog 17 #[.pointer (some ⟨b, o, none⟩)] (.panicking (strChain s false)) w fun e u' w' => e = .returned (.tuple #[]) ∧ u' = .panicking (strChain s true) ∧ w' = ((w.setCell ⟨b, o, none⟩ (.int .i64 2)).alloc (.cells #[.string ByteArray.empty] 51)) := by
  refine callsD_of_wpS Tryz.func17 rfl fun c₀ cs hu => ?_
  have hu2 := Tryz.underlying51
  have hlt := World.block_lt_of_cell? w _ h0
  have hta : ∀ W : World, (Instr.typeAssert (.iface 9 (.string s)) 20 51 true).run Tryz.prog W = .ok (.tuple #[.agg #[.string ByteArray.empty], .bool false]) W := fun W => by
    kernel_rfl
  simp only [Tryz.ntmps17, List.size_toArray, List.length_cons, List.length_nil, Nat.reduceAdd, Nat.reduceSub, Array.replicate_succ, Array.replicate_zero, List.push_toArray, List.append_toArray, List.nil_append, List.cons_append]
  apply wpS_seq
  apply wpS_region
  simp [wpOpsS, go_sem, recoverD, hu, strChain, Tryz.ntmps17, Exit.thenS]
  refine wpS_of_wp ?_
  go_wp2_with (fail)
  exact ⟨rfl, _, rfl, .tuple #[], by simp [results, Tryz.results17, go_sem], rfl, rfl, rfl⟩
set_option maxHeartbeats 1600000 in
set_option maxRecDepth 100000 in
/-- The closure returns: 'ended' tells 0. -/
theorem ended_Frac64 (cap : Array Value) (w : World) (S : Nat → Prop) (R : World → Prop) (hS : ¬ S w.heap.size) (hF : Calls Tryz.prog 9 cap (w.alloc (.cells #[.int .i64 0] 3)) fun e w' => e = .returned (.tuple #[]) ∧ R w' ∧ Sp.Kept S (w.alloc (.cells #[.int .i64 0] 3)) w') :
    Calls Tryz.prog 8 #[.func (.func 9) #[] cap] w fun e w' => e = .returned (.int .i64 0) ∧ ∃ w1, R w1 ∧ Sp.Kept S (w.alloc (.cells #[.int .i64 0] 3)) w1 ∧ w' = w1.setCell ⟨w.heap.size, 0, none⟩ (.int .i64 0) := by
  have hmf : ∀ (fn : Fn) (first cap : Array Value) (w : World), (Instr.makeFunc fn first cap).run Tryz.prog w = .ok (.func fn first cap) w := fun _ _ _ _ => rfl
  go_enter_defers Tryz.func8, Tryz.ntmps8
  go_wp2_with (fail)
  refine hF.mono ?_
  rintro e w1 ⟨rfl, hR, hb⟩
  have k0 : hp w1 w.heap.size = some (.cells #[.int .i64 0] 3 (0, 0)) := hp_kept (hp_new _ _ _ rfl) hb hS
  have c0 : w1.cell? ⟨w.heap.size, 0, none⟩ = some (.int .i64 0) := blk_cell k0 0
  have f0 : w1.frozen? ⟨w.heap.size, 0, none⟩ = false := blk_frozen k0 0
  have l0 := hp_lt k0
  have HR := Aside0.mk hR
  have HB := Aside0.mk hb
  clear hR hb hF k0
  go_wp2_with (fail)
  refine leaves_cons (f := 17) (args := #[.pointer (some ⟨w.heap.size, 0, none⟩)]) (by simp) (by simp [go_sem]) ?_
  refine (caught_idle ⟨w.heap.size, 0, none⟩ _).mono ?_
  rintro e u' w'' ⟨rfl, rfl, rfl⟩
  simp [Leaves, settle, results, Tryz.results8, go_sem, c0, f0]
  exact ⟨w1, HR.out, HB.out, rfl⟩
set_option maxHeartbeats 1600000 in
set_option maxRecDepth 100000 in
/-- The closure panics with a text: 'ended' tells 2. -/
theorem endedStr_Frac64 (cap : Array Value) (w : World) (S : Nat → Prop) (R : World → Prop) (hS : ¬ S w.heap.size) (hF : Calls Tryz.prog 9 cap (w.alloc (.cells #[.int .i64 0] 3)) fun e w' => (∃ s, e = .panicked (strChain s false)) ∧ R w' ∧ Sp.Kept S (w.alloc (.cells #[.int .i64 0] 3)) w') :
    Calls Tryz.prog 8 #[.func (.func 9) #[] cap] w fun e w' => e = .returned (.int .i64 2) ∧ ∃ w1, R w1 ∧ Sp.Kept S (w.alloc (.cells #[.int .i64 0] 3)) w1 ∧ Sp.Kept (On w.heap.size) w1 w' := by
  have hmf : ∀ (fn : Fn) (first cap : Array Value) (w : World), (Instr.makeFunc fn first cap).run Tryz.prog w = .ok (.func fn first cap) w := fun _ _ _ _ => rfl
  go_enter_defers Tryz.func8, Tryz.ntmps8
  go_wp2_with (fail)
  refine hF.mono ?_
  rintro e w1 ⟨⟨s, rfl⟩, hR, hb⟩
  have k0 : hp w1 w.heap.size = some (.cells #[.int .i64 0] 3 (0, 0)) := hp_kept (hp_new _ _ _ rfl) hb hS
  have c0 : w1.cell? ⟨w.heap.size, 0, none⟩ = some (.int .i64 0) := blk_cell k0 0
  have f0 : w1.frozen? ⟨w.heap.size, 0, none⟩ = false := blk_frozen k0 0
  have l0 := hp_lt k0
  obtain ⟨w2, hw2⟩ : ∃ w2, w2 = ((w1.setCell ⟨w.heap.size, 0, none⟩ (.int .i64 2)).alloc (.cells #[.string ByteArray.empty] 51)) := ⟨_, rfl⟩
  have hk2 : Sp.Kept (On w.heap.size) w1 w2 := by
    rw [hw2]
    exact ((Kept.refl (On w.heap.size) w1).setCell (p := ⟨w.heap.size, 0, none⟩) (.inl rfl) _).alloc _
  have k2 : hp w2 w.heap.size = some (.cells #[.int .i64 2] 3 (0, 0)) := by
    rw [hw2, hp_old _ _ _ (by simpa using l0), hp_here _ _ _ _ _ rfl, k0]
    rfl
  have d0 : w2.cell? ⟨w.heap.size, 0, none⟩ = some (.int .i64 2) := blk_cell k2 0
  have e0 : w2.frozen? ⟨w.heap.size, 0, none⟩ = false := blk_frozen k2 0
  have hcn := caught_str w.heap.size 0 s w1 c0 f0
  rw [← hw2] at hcn
  have HR := Aside0.mk hR
  have HB := Aside0.mk hb
  have HK2 := Aside0.mk hk2
  have HCN := Aside0.mk hcn
  clear hR hb hF k0 hk2 hcn hw2
  go_wp2_with (fail)
  refine leaves_cons (f := 17) (args := #[.pointer (some ⟨w.heap.size, 0, none⟩)]) (by simp) (by simp [go_sem]) ?_
  refine (HCN.out).mono ?_
  rintro e u' w'' ⟨rfl, rfl, rfl⟩
  simp [Leaves, settle, results, strChain, Tryz.results8, go_sem, d0, e0]
  exact ⟨w1, HR.out, HB.out, HK2.out⟩
set_option maxHeartbeats 1600000 in
set_option maxRecDepth 100000 in
/-- The closure returns: 'ended' tells 0. -/
theorem ended_NewFrac (cap : Array Value) (w : World) (S : Nat → Prop) (R : World → Prop) (hS : ¬ S w.heap.size) (hF : Calls Tryz.prog 12 cap (w.alloc (.cells #[.int .i64 0] 3)) fun e w' => e = .returned (.tuple #[]) ∧ R w' ∧ Sp.Kept S (w.alloc (.cells #[.int .i64 0] 3)) w') :
    Calls Tryz.prog 8 #[.func (.func 12) #[] cap] w fun e w' => e = .returned (.int .i64 0) ∧ ∃ w1, R w1 ∧ Sp.Kept S (w.alloc (.cells #[.int .i64 0] 3)) w1 ∧ w' = w1.setCell ⟨w.heap.size, 0, none⟩ (.int .i64 0) := by
  have hmf : ∀ (fn : Fn) (first cap : Array Value) (w : World), (Instr.makeFunc fn first cap).run Tryz.prog w = .ok (.func fn first cap) w := fun _ _ _ _ => rfl
  go_enter_defers Tryz.func8, Tryz.ntmps8
  go_wp2_with (fail)
  refine hF.mono ?_
  rintro e w1 ⟨rfl, hR, hb⟩
  have k0 : hp w1 w.heap.size = some (.cells #[.int .i64 0] 3 (0, 0)) := hp_kept (hp_new _ _ _ rfl) hb hS
  have c0 : w1.cell? ⟨w.heap.size, 0, none⟩ = some (.int .i64 0) := blk_cell k0 0
  have f0 : w1.frozen? ⟨w.heap.size, 0, none⟩ = false := blk_frozen k0 0
  have l0 := hp_lt k0
  have HR := Aside0.mk hR
  have HB := Aside0.mk hb
  clear hR hb hF k0
  go_wp2_with (fail)
  refine leaves_cons (f := 17) (args := #[.pointer (some ⟨w.heap.size, 0, none⟩)]) (by simp) (by simp [go_sem]) ?_
  refine (caught_idle ⟨w.heap.size, 0, none⟩ _).mono ?_
  rintro e u' w'' ⟨rfl, rfl, rfl⟩
  simp [Leaves, settle, results, Tryz.results8, go_sem, c0, f0]
  exact ⟨w1, HR.out, HB.out, rfl⟩
set_option maxHeartbeats 1600000 in
set_option maxRecDepth 100000 in
/-- The closure panics with a text: 'ended' tells 2. -/
theorem endedStr_NewFrac (cap : Array Value) (w : World) (S : Nat → Prop) (R : World → Prop) (hS : ¬ S w.heap.size) (hF : Calls Tryz.prog 12 cap (w.alloc (.cells #[.int .i64 0] 3)) fun e w' => (∃ s, e = .panicked (strChain s false)) ∧ R w' ∧ Sp.Kept S (w.alloc (.cells #[.int .i64 0] 3)) w') :
    Calls Tryz.prog 8 #[.func (.func 12) #[] cap] w fun e w' => e = .returned (.int .i64 2) ∧ ∃ w1, R w1 ∧ Sp.Kept S (w.alloc (.cells #[.int .i64 0] 3)) w1 ∧ Sp.Kept (On w.heap.size) w1 w' := by
  have hmf : ∀ (fn : Fn) (first cap : Array Value) (w : World), (Instr.makeFunc fn first cap).run Tryz.prog w = .ok (.func fn first cap) w := fun _ _ _ _ => rfl
  go_enter_defers Tryz.func8, Tryz.ntmps8
  go_wp2_with (fail)
  refine hF.mono ?_
  rintro e w1 ⟨⟨s, rfl⟩, hR, hb⟩
  have k0 : hp w1 w.heap.size = some (.cells #[.int .i64 0] 3 (0, 0)) := hp_kept (hp_new _ _ _ rfl) hb hS
  have c0 : w1.cell? ⟨w.heap.size, 0, none⟩ = some (.int .i64 0) := blk_cell k0 0
  have f0 : w1.frozen? ⟨w.heap.size, 0, none⟩ = false := blk_frozen k0 0
  have l0 := hp_lt k0
  obtain ⟨w2, hw2⟩ : ∃ w2, w2 = ((w1.setCell ⟨w.heap.size, 0, none⟩ (.int .i64 2)).alloc (.cells #[.string ByteArray.empty] 51)) := ⟨_, rfl⟩
  have hk2 : Sp.Kept (On w.heap.size) w1 w2 := by
    rw [hw2]
    exact ((Kept.refl (On w.heap.size) w1).setCell (p := ⟨w.heap.size, 0, none⟩) (.inl rfl) _).alloc _
  have k2 : hp w2 w.heap.size = some (.cells #[.int .i64 2] 3 (0, 0)) := by
    rw [hw2, hp_old _ _ _ (by simpa using l0), hp_here _ _ _ _ _ rfl, k0]
    rfl
  have d0 : w2.cell? ⟨w.heap.size, 0, none⟩ = some (.int .i64 2) := blk_cell k2 0
  have e0 : w2.frozen? ⟨w.heap.size, 0, none⟩ = false := blk_frozen k2 0
  have hcn := caught_str w.heap.size 0 s w1 c0 f0
  rw [← hw2] at hcn
  have HR := Aside0.mk hR
  have HB := Aside0.mk hb
  have HK2 := Aside0.mk hk2
  have HCN := Aside0.mk hcn
  clear hR hb hF k0 hk2 hcn hw2
  go_wp2_with (fail)
  refine leaves_cons (f := 17) (args := #[.pointer (some ⟨w.heap.size, 0, none⟩)]) (by simp) (by simp [go_sem]) ?_
  refine (HCN.out).mono ?_
  rintro e u' w'' ⟨rfl, rfl, rfl⟩
  simp [Leaves, settle, results, strChain, Tryz.results8, go_sem, d0, e0]
  exact ⟨w1, HR.out, HB.out, HK2.out⟩
end Go.Proofs.YtgpgacnnkjiadaaGreatDoor.Sp
end
