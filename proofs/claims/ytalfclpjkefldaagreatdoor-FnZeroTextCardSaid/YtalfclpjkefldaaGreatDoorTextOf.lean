/-
  CONTRACT of Float.Text over one of Append.
-/
import Derived.Test.YtalfclpjkefldaaGreatDoorTextZ
namespace Go.Proofs.YtalfclpjkefldaaGreatDoor.Sp
open Go.RowKit Go.Proofs.YtalfclpjkefldaaGreatDoorW.PrintWords Go.Proofs.YtalfclpjkefldaaGreatDoorW.PrintLast Go.Proofs.YtalfclpjkefldaaGreatDoorW.PrintMore Go.Proofs.YtalfclpjkefldaaGreatDoor.Dig
set_option linter.unusedVariables false
set_option linter.unusedSimpArgs false
set_option maxHeartbeats 1600000 in
set_option maxRecDepth 100000 in
theorem text_of (g p : Nat) (m f ch k : Int) (neg : Bool) (T : List Int) (w : World) (h : Spc w g p m f neg) (hk : -100000 ≤ k ∧ k ≤ 100000) (HA0 : ∀ W (v : Value), Spc W g p m f neg → Bu w W v [] → g < w.heap.size → Calls Tryz.prog 47 #[.pointer (some ⟨g, 0, none⟩), v, .int .u8 ch, .int .i64 k] W (BuPost w T)) :
    Calls Tryz.prog 34 #[.pointer (some ⟨g, 0, none⟩), .int .u8 ch, .int .i64 k] w fun e w' => e = .returned (.string (strOfNums T)) ∧ Below w.heap.size w w' := by
  have HS := Aside0.mk h
  have HG := Aside0.mk (hp_lt h.blk)
  clear h
  obtain ⟨cap, hcap⟩ : ∃ cap : Int, cap = if 0 < k then 10 + k else 10 := ⟨_, rfl⟩
  have hc0 : 0 ≤ cap ∧ cap ≤ 200000 := by split at hcap <;> omega
  have hmk := make_ints 47 5 .u8 1 Tryz.underlying47 infoU8 (by omega) 0 cap (by omega) hc0.1 (by omega)
  have HA : Aside0 (∀ W, Spc W g p m f neg → Bu w W (.slice (some ⟨w.heap.size, 0, none⟩) 0 cap.toNat) [] → Calls Tryz.prog 47 #[.pointer (some ⟨g, 0, none⟩), .slice (some ⟨w.heap.size, 0, none⟩) 0 cap.toNat, .int .u8 ch, .int .i64 k] W fun e w' => ∃ v', e = .returned v' ∧ Bu w w' v' T) := ⟨fun W h1 h2 => HA0 W _ h1 h2 HG.out⟩
  have HM : Aside0 (Bu w (w.alloc (.cells (Array.replicate cap.toNat (.int .u8 0)) 5)) (.slice (some ⟨w.heap.size, 0, none⟩) 0 cap.toNat) []) := ⟨bu_made w w (Below.refl _ _) _ (by omega)⟩
  have HS2 : Aside0 (Spc (w.alloc (.cells (Array.replicate cap.toNat (.int .u8 0)) 5)) g p m f neg) := ⟨hp_below HS.out (below_alloc (Below.refl _ _) _)⟩
  clear HA0
  have h0n : (0 : Int).toNat = 0 := rfl
  rw [h0n] at hmk
  by_cases hk0 : 0 < k
  · have hw : IntKind.i64.wrap (10 + k) = cap := by rw [IntWalk.i64_in _ (by omega), hcap, if_pos hk0]
    clear hcap hc0
    go_enter Tryz.func34, Tryz.ntmps34
    go_wp2_with (go_at_call 47; refine (HA.out _ HS2.out HM.out).mono ?_; rintro e w1 ⟨v1, rfl, hb1⟩; have hcv := bu_string hb1 9 Tryz.underlying9; have HB1 := Aside0.mk hb1.bel; clear hb1)
    go_ret
    exact ⟨rfl, HB1.out⟩
  · have hw : cap = 10 := by rw [hcap, if_neg hk0]
    subst hw
    clear hcap hc0
    go_enter Tryz.func34, Tryz.ntmps34
    go_wp2_with (go_at_call 47; refine (HA.out _ HS2.out HM.out).mono ?_; rintro e w1 ⟨v1, rfl, hb1⟩; have hcv := bu_string hb1 9 Tryz.underlying9; have HB1 := Aside0.mk hb1.bel; clear hb1)
    go_ret
    exact ⟨rfl, HB1.out⟩
end Go.Proofs.YtalfclpjkefldaaGreatDoor.Sp
