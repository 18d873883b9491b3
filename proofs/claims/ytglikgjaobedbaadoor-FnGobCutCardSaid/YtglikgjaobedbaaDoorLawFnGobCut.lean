/-
  THE ROW of FnGobCut: out of its walk (the text YtglikgjaobedbaaDoorFnGobCut).
-/
import Derived.Test.YtglikgjaobedbaaDoorRow
import Derived.Test.YtglikgjaobedbaaDoorFnGobCut
import Derived.Test.YtglikgjaobedbaaDoorGlaw
import Derived.Test.YtglikgjaobedbaaDoorCards
import Derived.Test.YtglikgjaobedbaaDoorTie
import Derived.LaidMore
import Derived.Lay
import Derived.SevenTiedAt
import Derived.Stop.Joined
import Derived.WalkKit
namespace Go.Proofs.YtglikgjaobedbaaDoor.fnGobCut
open Go.ChangeShapes Go.WideShapes Go.ChangeAt Go.RowKit Go.Proofs.YtglikgjaobedbaaDoorW.PrintWords Go.Joins Go.Deep
open Go.ChangeMaps (open_string shut_string)
set_option linter.unusedVariables false
set_option linter.unusedSimpArgs false
set_option maxRecDepth 100000 in
theorem lifted (os : Os) (started : os.Started) (H : Type) (enc : TypeId × Value → H) :
    ReturnsInHanded {} Tryd.checked os 10 .any (fun w args => (Rows.fnGobCutSpec.pre enc Tryd.prog Tryd.f10 Rows.fnGobCutRow.domain false w args ∧ laidMetH Tryd.prog Rows.fnGobCutRow.laid w) ∧ sizedMet enc Tryd.prog Tryd.f10 (OpenSpec.ofChange Rows.fnGobCutSpec) false w args) (Rows.fnGobCutSpec.post enc Tryd.prog Tryd.f10 false true false false) := by
  refine returnsInHanded_of_change_and (C := Tryd.checked) (X := fun w _ => laidMetH Tryd.prog Rows.fnGobCutRow.laid w) (fun _ _ _ hh h => h.of_heap hh) own started (by kernel_rfl) Tryd.func10
    (ChangeSpec.witness_shaped (enc := enc) (C := Tryd.checked) (os := os) (X := fun w _ => laidMetH Tryd.prog Rows.fnGobCutRow.laid w) false (World.laidAll Tryd.prog os Rows.fnGobCutRow.laid) #[.agg #[.int .u64 0, .int .i64 0, .int .i64 0, .bool false, .slice none 0 0, .int .i64 0], .int .u8 0] 8 (World.laidAll_os _ _ _)
      (World.shaped_of_ZipB (by kernel_rfl) (by kernel_rfl)) (by kernel_rfl) (by kernel_rfl) (by kernel_rfl)
      (by rw [MakeChecks.laidMetH_plain _ _ _ (by kernel_rfl)]; exact laidMet_laidAll _ (by kernel_rfl) (by kernel_rfl))) ?_
  intro W base args ds gs before hval0 hW hcnd hsz0 hL _
  have hsz : (DataW.weightsEach Tryd.prog (Tryd.f10.params.toList ++ Rows.fnGobCutSpec.plain.varTypes Tryd.prog) (ds ++ gs)).all (· ≤ reachBytes) = true := hsz0
  have hval : ∀ (j : Nat) t v, Tryd.f10.params[j]? = some t → args[j]? = some v → Value.okWide Tryd.prog W .any base t v := hval0
  have hW' := hW
  obtain ⟨p, q, hA0, hV, rfl, hfz, hnd⟩ := hW
  have hA : DataW.TrodAll enc Tryd.prog W 0 (fun _ => true) true Tryd.f10.params.toList args.toList ds p := hA0
  rw [Tryd.params10] at hA hval hsz
  obtain ⟨v0, vs0, d0, ds0, p0, q0, hargs, rfl, rfl, h0, r0⟩ := trodAll_cons hA
  obtain ⟨v1, vs1, d1, ds1, p1, q1, rfl, rfl, rfl, h1, r1⟩ := trodAll_cons r0
  obtain ⟨rfl, rfl, rfl⟩ := trodAll_nil r1
  obtain rfl : args = #[v0, v1] := by cases args; simp_all
  obtain ⟨rfl, rfl⟩ := trodVars_none hV
  have k0 := h0
  have lt0 : ∀ x ∈ p0, x.block < W.heap.size := by obtain ⟨m, hm⟩ := k0; exact DataW.trod_lt m _ _ _ hm
  obtain ⟨fuel0, hf0⟩ := h0
  obtain ⟨cs0, rfl, hs0⟩ := okWide_struct Tryd.underlying28 (hval 0 28 v0 rfl rfl)
  obtain ⟨p0', m0, f0, n0, v0, l0, x0, e0, b0, wp0, wm0, wf0, wx0⟩ := real_of_trod hf0
  obtain rfl : cs0 = #[.int .u64 p0', .int .i64 m0, .int .i64 f0, .bool n0, v0, .int .i64 x0] := by cases cs0; simpa [Value.cells] using e0
  obtain ⟨a1, rfl, rfl, rfl, w1⟩ := open_int Tryd.underlying5 (hval 1 5 v1 rfl rfl) h1
  clear hA0 hval0 hsz0 hsz
  refine (walk p0' m0 f0 n0 v0 l0 x0 a1 w1 W b0 wp0 wm0 wf0 wx0 (Sp.tb_of_laid hL)).mono fun e W' ⟨he, bel⟩ => ?_
  subst he
  exact ⟨_, rfl, _, _, _, [], _, [], hW', trodAll_mk1 (shut_bool Tryd.underlying4 _), (trodAll_cons_mk (Below.trod laidOut (by kernel_rfl) (of_decide_eq_true (by kernel_rfl)) k0 bel lt0) (trodAll_cons_mk (shut_int Tryd.underlying5 w1) trodAll_mk0)), rfl, bel.frame _, fun h => by cases h⟩
theorem over : Rows.fnGobCutRow.holds Tryd.pinned (OpenSpec.ofChange Rows.fnGobCutSpec) :=
  OpenClaim.holds_of_wide 10 Tryd.f10 rfl rfl rfl rfl rfl rfl rfl ⟨rfl, rfl, rfl, rfl, rfl⟩ rfl rfl rfl rfl rfl (by kernel_rfl) Tryd.func10 (by kernel_rfl)
    (of_decide_eq_true (by kernel_rfl)) (by unfold Func.isWrapper; first | (rw [if_pos (by decide +kernel)]; kernel_rfl) | (rw [if_neg (by decide +kernel)]; exact ⟨rfl, rfl⟩))
    (fun os started H enc _ => lifted os started H enc)
theorem proved : Rows.FnGobCutSaid := over
theorem card_holds : Rows.FnGobCutCardSaid :=
  Claim7.holds_tied_plain_at .later [] [.data, .data] true (true, "240eed4dcdbb71fb4814ba2287481bbf1766d4550944848b2dbdca6a34c8c709") true over (fun _ h => by cases h) (by kernel_rfl) (fun _ h => by cases h) fnGobCut_row_tie rfl ⟨rfl, rfl⟩ (by kernel_rfl) rfl
    (fun f fn hf hfn => by
      obtain rfl : f = 10 := Option.some.inj ((show Tryd.prog.funcNamed "loop.example/pub-g03249/laws.FnGobCut" = some 10 by kernel_rfl).symm.trans hf) |>.symm
      obtain rfl : fn = Tryd.f10 := (Option.some.inj (Tryd.func10.symm.trans hfn)).symm
      exact ⟨by kernel_rfl, fun j t ht => by
        rw [Tryd.params10] at ht
        have hm : t ∈ [28, 5] := by simpa using Array.mem_of_getElem? ht
        have hall : ([28, 5].all fun u => !Tryd.prog.wantsStandIn u) = true := by kernel_rfl
        exact (show Tryd.prog.wantsStandIn t = false by simpa using List.all_eq_true.1 hall t hm)⟩)
    (by kernel_rfl)
#print axioms card_holds
end Go.Proofs.YtglikgjaobedbaaDoor.fnGobCut
namespace Go.Proofs.YtglikgjaobedbaaDoor
/-- FnGobCut. -/
theorem fnGobCut_holds : Rows.FnGobCutCardSaid := fnGobCut.card_holds
end Go.Proofs.YtglikgjaobedbaaDoor

