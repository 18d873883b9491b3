/-
  FnGobInf holds for every input.
-/
import Derived.Test.YtglikgjaobedbaaDoorGobG
import Derived.Test.YtglikgjaobedbaaDoorRow
namespace Go.Proofs.YtglikgjaobedbaaDoor.fnGobInf
open Go.RowKit Go.Proofs.YtglikgjaobedbaaDoorW.PrintWords Go.Proofs.YtglikgjaobedbaaDoorW.PrintLast Go.Proofs.YtglikgjaobedbaaDoorW.PrintMore Go.Proofs.YtglikgjaobedbaaDoor.Dig Go.Proofs.YtglikgjaobedbaaDoor.Sp
set_option linter.unusedVariables false
set_option linter.unusedSimpArgs false
set_option maxHeartbeats 6400000 in
set_option maxRecDepth 100000 in
theorem walk (a : Int) (ha : (Lit.int .u16 a).wf = true) (d : Int) (hd : (Lit.int .u8 d).wf = true) (neg inf : Bool) (w : World) :
    Calls Tryd.prog 11 #[.int .u16 a, .int .u8 d, .bool neg, .bool inf] w fun e w' => e = .returned (.bool true) ∧ Below w.heap.size w w' := by
  have h1 := wf_u16 ha
  have h2 := wf_u8 hd
  obtain ⟨P, hP⟩ := Int.eq_ofNat_of_zero_le (show 0 ≤ 1 + a by omega)
  obtain ⟨m, hm1⟩ : ∃ m : Int, m = d % 6 := ⟨_, rfl⟩
  have hm2 : d % 6 = m := hm1.symm
  have hm3 : 0 ≤ m ∧ m < 6 := by omega
  have hw1 : IntKind.u64.wrap a = a := by rw [IntKind.wrap_u64]; omega
  have hw2 : IntKind.u64.wrap (1 + a) = (P : Int) := by rw [IntKind.wrap_u64]; omega
  have hw3 : IntKind.u64.wrap (P : Int) = (P : Int) := by rw [IntKind.wrap_u64]; omega
  have hPP : 1 ≤ P ∧ P ≤ 65536 := by omega
  have hu := Tryd.underlying28
  clear ha hd hm1
  cases inf with
  | false =>
    go_enter Tryd.func11, Tryd.ntmps11
    go_wp2_with (fail)
    refine (gob_spc P m 0 0 neg none 0 0 _ (.inl rfl) ⟨by omega, by omega⟩ hm3).mono ?_
    rintro e w2 ⟨gb, hgb, rfl, hk, hb2⟩
    have KX2 := Aside0.mk (hp_below (show hp _ w.heap.size = some (.cells #[.int .u64 P, .int .i64 m, .int .i64 0, .bool neg, .slice none 0 0, .int .i64 0] 28 (0, 0)) from (by simp (disch := first | omega | (simp; omega) | (simp; done) | fail) [hp_new, hp_old, hp_here, hp_other, setObj_cells, hp_drew, hp_drewN])) hb2)
    have HB2 : Aside0 (Below w.heap.size w w2) := ⟨below_step (below_alloc (Below.refl _ _) _) hb2⟩
    have HK2 := Aside0.mk hk
    clear hk hb2
    go_wp2_with (fail)
    refine (gobBack_spc gb P m 0 neg w2 HK2.out (.inl rfl) (by omega) hm3).mono ?_
    rintro e w3 ⟨A, mm, cc, rfl, hb3⟩
    have KX3 := Aside0.mk (hp_below KX2.out hb3)
    have HB3 := Aside0.mk (below_step HB2.out hb3)
    obtain ⟨c0, c1, c2, c3, c4, c5, f0, f1, f2, f3, f4, f5⟩ := blk6 KX3.out
    have l3 := hp_lt KX3.out
    clear hb3 HK2 KX2 HB2
    go_wp2_with (fail)
    go_ret
    exact ⟨rfl, below_alloc HB3.out _⟩
  | true =>
    go_enter Tryd.func11, Tryd.ntmps11
    go_wp2_with (fail)
    refine (gob_spc P m 2 0 neg none 0 0 _ (.inr rfl) ⟨by omega, by omega⟩ hm3).mono ?_
    rintro e w2 ⟨gb, hgb, rfl, hk, hb2⟩
    have KX2 := Aside0.mk (hp_below (show hp _ w.heap.size = some (.cells #[.int .u64 P, .int .i64 m, .int .i64 2, .bool neg, .slice none 0 0, .int .i64 0] 28 (0, 0)) from (by simp (disch := first | omega | (simp; omega) | (simp; done) | fail) [hp_new, hp_old, hp_here, hp_other, setObj_cells, hp_drew, hp_drewN])) hb2)
    have HB2 : Aside0 (Below w.heap.size w w2) := ⟨below_step (below_alloc (Below.refl _ _) _) hb2⟩
    have HK2 := Aside0.mk hk
    clear hk hb2
    go_wp2_with (fail)
    refine (gobBack_spc gb P m 2 neg w2 HK2.out (.inr rfl) (by omega) hm3).mono ?_
    rintro e w3 ⟨A, mm, cc, rfl, hb3⟩
    have KX3 := Aside0.mk (hp_below KX2.out hb3)
    have HB3 := Aside0.mk (below_step HB2.out hb3)
    obtain ⟨c0, c1, c2, c3, c4, c5, f0, f1, f2, f3, f4, f5⟩ := blk6 KX3.out
    have l3 := hp_lt KX3.out
    clear hb3 HK2 KX2 HB2
    go_wp2_with (fail)
    go_ret
    exact ⟨rfl, below_alloc HB3.out _⟩
end Go.Proofs.YtglikgjaobedbaaDoor.fnGobInf
