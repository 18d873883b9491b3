/-
  THE ROW of FnAppend: out of its walk (the text YtfnknldbjckgoaaGreatDoorFnAppend).
-/
import Derived.Test.YtfnknldbjckgoaaGreatDoorZRow
import Derived.Test.YtfnknldbjckgoaaGreatDoorZFnAppend
import Derived.Test.YtfnknldbjckgoaaGreatDoorZLaidFnAppend
import Derived.Test.YtfnknldbjckgoaaGreatDoorZJoinFnAppend
import Derived.Test.YtfnknldbjckgoaaGreatDoorCards
import Derived.Test.YtfnknldbjckgoaaGreatDoorTie
import Derived.LaidMore
import Derived.Lay
import Derived.SevenTiedAt
import Derived.Stop.Joined
import Derived.OpenVars
import Derived.ChangeVars
import Derived.WalkKit
namespace Go.Proofs.YtfnknldbjckgoaaGreatDoor.fnAppend
open Go.ChangeShapes Go.WideShapes Go.ChangeAt Go.RowKit Go.Proofs.YtfnknldbjckgoaaGreatDoorW.PrintWords Go.Joins Go.Deep
open Go.ChangeMaps (open_string shut_string)
set_option linter.unusedVariables false
set_option linter.unusedSimpArgs false
set_option maxRecDepth 100000 in
theorem tv_cons {H : Type} {enc : TypeId × Value → H} {P : Program} {w : World} {sp : Nat → Bool} {n : String} {ns : List String} {gs : List (DataW H)} {ps : List MemPlace} (h : DataW.TrodVars enc P w sp (n :: ns) gs ps) : ∃ d ds q, gs = d :: ds ∧ DataW.TrodVars enc P w sp ns ds q := by
  cases gs with
  | nil => simp [DataW.TrodVars] at h
  | cons d ds => obtain ⟨g, t, cs, fuel, p, q, h1, h2, h3, h4, hs, e⟩ := h; exact ⟨d, ds, q, rfl, hs⟩
set_option maxRecDepth 100000 in
theorem lifted (os : Os) (started : os.Started) (H : Type) (enc : TypeId × Value → H) :
    ReturnsInHanded {} Tryz.checked os 9 .any (fun w args => (Rows.fnAppendSpec.pre enc Tryz.prog Tryz.f9 Rows.fnAppendRow.domain false w args ∧ laidMetH Tryz.prog Rows.fnAppendRow.laid w) ∧ sizedMet enc Tryz.prog Tryz.f9 (OpenSpec.ofChange Rows.fnAppendSpec) false w args) (Rows.fnAppendSpec.post enc Tryz.prog Tryz.f9 false true false false) := by
  refine returnsInHanded_of_change_and (C := Tryz.checked) (X := fun w _ => laidMetH Tryz.prog Rows.fnAppendRow.laid w) (fun _ _ _ hh h => h.of_heap hh) own started (by kernel_rfl) Tryz.func9
    (ChangeSpec.witness_shaped (enc := enc) (C := Tryz.checked) (os := os) (X := fun w _ => laidMetH Tryz.prog Rows.fnAppendRow.laid w) false (World.laidAll Tryz.prog os Rows.fnAppendRow.laid) #[.slice none 0 0, .agg #[.int .u64 0, .int .i64 0, .int .i64 0, .bool false, .slice none 0 0, .int .i64 0], .int .u8 0, .int .u8 0] 8 (World.laidAll_os _ _ _)
      (World.shaped_of_ZipB (by kernel_rfl) (by kernel_rfl)) (by kernel_rfl) (by kernel_rfl) (by kernel_rfl)
      (by rw [MakeChecks.laidMetH_plain _ _ _ (by kernel_rfl)]; exact laidMet_laidAll _ (by kernel_rfl) (by kernel_rfl))) ?_
  intro W base args ds gs before hval0 hW hcnd hsz0 hL _
  have hsz : (DataW.weightsEach Tryz.prog (Tryz.f9.params.toList ++ Rows.fnAppendSpec.plain.varTypes Tryz.prog) (ds ++ gs)).all (· ≤ reachBytes) = true := hsz0
  have hval : ∀ (j : Nat) t v, Tryz.f9.params[j]? = some t → args[j]? = some v → Value.okWide Tryz.prog W .any base t v := hval0
  have hW' := hW
  obtain ⟨p, q, hA0, hV, rfl, hfz, hnd⟩ := hW
  have hA : DataW.TrodAll enc Tryz.prog W 0 (fun _ => true) true Tryz.f9.params.toList args.toList ds p := hA0
  rw [Tryz.params9] at hA hval hsz
  obtain ⟨v0, vs0, d0, ds0, p0, q0, hargs, rfl, rfl, h0, r0⟩ := trodAll_cons hA
  obtain ⟨v1, vs1, d1, ds1, p1, q1, rfl, rfl, rfl, h1, r1⟩ := trodAll_cons r0
  obtain ⟨v2, vs2, d2, ds2, p2, q2, rfl, rfl, rfl, h2, r2⟩ := trodAll_cons r1
  obtain ⟨v3, vs3, d3, ds3, p3, q3, rfl, rfl, rfl, h3, r3⟩ := trodAll_cons r2
  obtain ⟨rfl, rfl, rfl⟩ := trodAll_nil r3
  obtain rfl : args = #[v0, v1, v2, v3] := by cases args; simp_all
  have hV0 := hV
  obtain ⟨g0, gs0, hq0, rfl, hV1⟩ := tv_cons hV0
  obtain ⟨g1, gs1, hq1, rfl, hV2⟩ := tv_cons hV1
  obtain ⟨g2, gs2, hq2, rfl, hV3⟩ := tv_cons hV2
  obtain ⟨g3, gs3, hq3, rfl, hV4⟩ := tv_cons hV3
  obtain ⟨g4, gs4, hq4, rfl, hV5⟩ := tv_cons hV4
  obtain ⟨rfl, rfl⟩ := trodVars_none hV5
  have k0 := h0
  have lt0 : ∀ x ∈ p0, x.block < W.heap.size := by obtain ⟨m, hm⟩ := k0; exact DataW.trod_lt m _ _ _ hm
  obtain ⟨fuel0, hf0⟩ := h0
  obtain ⟨vv0, l0, cs0, b0⟩ := ints_of_trod Tryz.underlying43 Tryz.underlying5 (by kernel_rfl) hf0
  obtain ⟨A0, len0, cap0, rfl⟩ := okWide_slice Tryz.underlying43 (hval 0 43 v0 rfl rfl)
  obtain rfl : Value.slice A0 len0 cap0 = vv0 := by simpa [Value.cells] using cs0
  have k1 := h1
  have lt1 : ∀ x ∈ p1, x.block < W.heap.size := by obtain ⟨m, hm⟩ := k1; exact DataW.trod_lt m _ _ _ hm
  obtain ⟨fuel1, hf1⟩ := h1
  obtain ⟨cs1, rfl, hs1⟩ := okWide_struct Tryz.underlying25 (hval 1 25 v1 rfl rfl)
  obtain ⟨p1', m1, f1, n1, v1, l1, x1, e1, b1, wp1, wm1, wf1, wx1⟩ := real_of_trod hf1
  obtain rfl : cs1 = #[.int .u64 p1', .int .i64 m1, .int .i64 f1, .bool n1, v1, .int .i64 x1] := by cases cs1; simpa [Value.cells] using e1
  obtain ⟨a2, rfl, rfl, rfl, w2⟩ := open_int Tryz.underlying5 (hval 2 5 v2 rfl rfl) h2
  obtain ⟨a3, rfl, rfl, rfl, w3⟩ := open_int Tryz.underlying5 (hval 3 5 v3 rfl rfl) h3
  clear hA0 hval0 hsz0 hsz
  refine (walk _ l0 p1' m1 f1 n1 v1 l1 x1 a2 w2 a3 w3 W b0 b1 wp1 wm1 wf1 wx1 (Sp.leaf_of_laid hL) (Sp.pw_of_laid hL) (Sp.tb_of_laid hL)).mono fun e W' ⟨he, bel⟩ => ?_
  subst he
  exact ⟨_, rfl, _, _, _, [], _, _, hW', trodAll_mk1 (shut_bool Tryz.underlying4 _), (trodAll_cons_mk (Below.trod laidOut (by kernel_rfl) (of_decide_eq_true (by kernel_rfl)) k0 bel lt0) (trodAll_cons_mk (Below.trod laidOut (by kernel_rfl) (of_decide_eq_true (by kernel_rfl)) k1 bel lt1) (trodAll_cons_mk (shut_int Tryz.underlying5 w2) (trodAll_cons_mk (shut_int Tryz.underlying5 w3) trodAll_mk0)))), Below.trodVars laidOut bel (by kernel_rfl) hV, bel.frame _, fun h => by cases h⟩
theorem over : Rows.fnAppendRow.holds Tryz.pinned (OpenSpec.ofChange Rows.fnAppendSpec) :=
  OpenClaim.holds_of_wide 9 Tryz.f9 rfl rfl rfl rfl rfl rfl rfl ⟨rfl, rfl, rfl, rfl, rfl⟩ rfl rfl rfl rfl rfl named_f Tryz.func9 closed inst_f wrap_f
    (fun os started H enc _ => lifted os started H enc)
theorem proved : Rows.FnAppendSaid := over
theorem card_holds : Rows.FnAppendCardSaid :=
  Claim7.holds_tied_plain_at .later [] [.data, .data, .data, .data, .data, .data, .data, .data, .data, .pinned] true (true, "ba559489b85515bdad3892c2a8a9d0ed34bdf2f132b7d0e27180ec634c7f6e56") false over (fun _ h => by cases h) (by as_aux_lemma => kernel_rfl) (fun _ h => by cases h) fnAppend_row_tie rfl ⟨rfl, rfl⟩ (by as_aux_lemma => kernel_rfl) rfl
    (fun f fn hf hfn => by
      obtain rfl : f = 9 := Option.some.inj ((show Tryz.prog.funcNamed "loop.example/pub-g03249/laws.FnAppend" = some 9 by kernel_rfl).symm.trans hf) |>.symm
      obtain rfl : fn = Tryz.f9 := (Option.some.inj (Tryz.func9.symm.trans hfn)).symm
      exact ⟨by as_aux_lemma => kernel_rfl, fun j t ht => by
        rw [Tryz.params9] at ht
        have hm : t ∈ [43, 25, 5, 5] := by simpa using Array.mem_of_getElem? ht
        have hall : ([43, 25, 5, 5].all fun u => !Tryz.prog.wantsStandIn u) = true := by kernel_rfl
        exact (show Tryz.prog.wantsStandIn t = false by simpa using List.all_eq_true.1 hall t hm)⟩)
    (by as_aux_lemma => kernel_rfl)
#print axioms card_holds
end Go.Proofs.YtfnknldbjckgoaaGreatDoor.fnAppend
namespace Go.Proofs.YtfnknldbjckgoaaGreatDoor
/-- FnAppend. -/
theorem fnAppend_holds : Rows.FnAppendCardSaid := fnAppend.card_holds
end Go.Proofs.YtfnknldbjckgoaaGreatDoor

