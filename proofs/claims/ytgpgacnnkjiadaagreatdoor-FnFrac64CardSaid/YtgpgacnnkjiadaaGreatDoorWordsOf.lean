/-
  CONTRACTS of the thin package's conversions: 'wordsOf' (the words of an Int, in a row of its own).
-/
import Derived.Test.YtgpgacnnkjiadaaGreatDoorBase
namespace Go.Proofs.YtgpgacnnkjiadaaGreatDoor
open Go.RowKit Go.Proofs.YtgpgacnnkjiadaaGreatDoorW.PrintWords Go.Proofs.YtgpgacnnkjiadaaGreatDoorW.PrintLast Go.Proofs.YtgpgacnnkjiadaaGreatDoorW.PrintMore

set_option maxHeartbeats 800000 in
set_option maxRecDepth 100000 in
theorem wordsOf_any (b o : Nat) (A : Option Addr) (c : Nat) (l : List Int) (w : World) (hz : w.cell? ⟨b, o + 1, none⟩ = some (.slice A l.length c)) (hr : Kd.C (Kd.int .u64) w A l.length l) (hn : l.length ≤ 1000000000000) :
    Calls Tryz.prog 23 #[.pointer (some ⟨b, o, none⟩)] w fun e w' => ∃ v, e = .returned v ∧ Kd.R (Kd.int .u64) 45 w' w.heap.size (fun k => w.heap.size ≤ k) v l ∧ Below w.heap.size w w' := by
  have HR := Aside0.mk hr
  clear hr
  go_enter Tryz.func23, Tryz.ntmps23
  go_wp2
  go_loopw [3, 9] (fun v3 v9 wr => ∃ i : Int, 0 ≤ i ∧ i ≤ l.length ∧ v9 = .int .i64 i ∧ Aside0 (Kd.R (Kd.int .u64) 45 wr w.heap.size (fun k => w.heap.size ≤ k) v3 (l.take i.toNat)) ∧ Aside0 (Below w.heap.size w wr)) (fun _ i _ => l.length - (intOf i).toNat)
  case atStart => exact ⟨0, by omega, by omega, rfl, ⟨by simpa using Kd.R_nil _ _ _ _ _⟩, ⟨Below.refl _ _⟩⟩
  case round =>
    obtain ⟨i, h0, h1, rfl, HO, HB⟩ := hrel
    by_cases hlt : i < l.length
    · obtain ⟨ad, e, hx⟩ := Kd.at_int HR.out i h0 hlt
      cases e
      replace hx := (HB.out.cell (World.block_lt_of_cell? w _ hx)).trans hx
      have hs : Aside0 (l.take (i + 1).toNat = l.take i.toNat ++ [rd l i]) := by
        constructor
        rw [show (i + 1).toNat = i.toNat + 1 by omega, List.take_succ_eq_append_getElem (by omega)]
        simp [rd, List.getD, List.getElem?_eq_getElem (show i.toNat < l.length by omega)]
      have hlen : (l.take i.toNat).length ≤ 1000000000000 := by rw [List.length_take]; omega
      have HL := Aside0.mk hlen
      clear hlen
      go_wp2_with (first | ((with_reducible refine gate_builtin (b := .append) (xs := #[.tmp 13, .tmp 15]) rfl ?_); at_builtin; refine Kd.R_append (Kd.int .u64) (w0 := w) w.heap.size rfl (.tmp 13) (.tmp 15) 22 45 (.int .u64 0) 8 rfl Tryz.underlying22 infoUint rfl (by decide) (by omega) u3 (l.take i.toNat) (rd l i) [.int .u64 (rd l i)] (fun k_ => (w.heap.size ≤ k_)) (fun _ => False) rfl rfl ?aP (fun _ hk => hk.elim) ?aF ?aO ?aB ?aS ?aL ?_; (case aP => exact rfl); (case aB => exact (by repeat (first | (with_reducible first | exact HB.out | apply below_alloc | apply pw_below_drewN | apply below_drew1) | exact HB.out))); (case aF => exact (fun k_ hk => (Nat.le_trans (below_size (by repeat (first | (with_reducible first | exact HB.out | apply below_alloc | apply pw_below_drewN | apply below_drew1) | exact HB.out))) hk))); (case aO => exact (by (with_reducible repeat (first | apply Kd.R_alloc | apply Kd.R_drewN | apply Kd.R_drew)); exact HO.out)); (case aS => exact (below_size (by repeat (first | (with_reducible first | exact HB.out | apply below_alloc | apply pw_below_drewN | apply below_drew1) | exact HB.out)))); (case aL => have := HL.out; omega); intro v1 w1 ho hb hg hat; rw [← hs.out] at ho; have n0_ := Aside0.mk (hb); have n1_ := Aside0.mk (ho); clear HB; clear HO; have HB := n0_; have HO := n1_; clear n0_ n1_; clear ho hb hg hat))
      go_roundw
      case rel => (repeat apply Exists.intro); exact ⟨⟨i + 1, by omega, by omega, rfl, ⟨HO.out⟩, ⟨HB.out⟩⟩, rfl⟩
      case measure => simp [intOf]; omega
    · have hi : i = (l.length : Int) := by omega
      have HO' : Aside0 (Kd.R (Kd.int .u64) 45 wr w.heap.size (fun k => w.heap.size ≤ k) u3 l) := ⟨by have := HO.out; rwa [show i.toNat = l.length by omega, List.take_length] at this⟩
      obtain ⟨A3, c3, e3⟩ := Kd.R_slice HO'.out
      subst e3
      clear HO
      go_wp2
      go_ret
      exact ⟨_, rfl, HO'.out, HB.out⟩

set_option maxHeartbeats 800000 in
set_option maxRecDepth 100000 in
theorem told_any (b o : Nat) (neg : Bool) (A : Option Addr) (c : Nat) (l : List Int) (w : World) (hz0 : w.cell? ⟨b, o, none⟩ = some (.bool neg)) (hz : w.cell? ⟨b, o + 1, none⟩ = some (.slice A l.length c)) (hr : Kd.C (Kd.int .u64) w A l.length l) (hn : l.length ≤ 1000000000000) (hb : b < w.heap.size) :
    Calls Tryz.prog 21 #[.pointer (some ⟨b, o, none⟩)] w fun e w' => ∃ v, e = .returned (.agg #[.bool (neg && !l.isEmpty), v]) ∧ Kd.R (Kd.int .u64) 45 w' w.heap.size (fun k => w.heap.size ≤ k) v l ∧ Below w.heap.size w w' := by
  have HR := Aside0.mk (Kd.C_below hr (below_alloc (Below.refl _ _) (.cells #[.bool false, .slice none 0 0] 24)))
  have HN := Aside0.mk hn
  clear hr hn
  have key : ∀ s : Int, (if (l.length : Int) = 0 then 0 else if neg then -1 else 1) = s → decide (s < 0) = (neg && !l.isEmpty) := by
    intro s hs
    subst hs
    cases l with
    | nil => simp
    | cons x l => cases neg <;> simp <;> split <;> omega
  have sign : ∀ w : World, w.cell? ⟨b, o, none⟩ = some (.bool neg) → w.cell? ⟨b, o + 1, none⟩ = some (.slice A l.length c) → Calls Tryz.prog 39 #[.pointer (some ⟨b, o, none⟩)] w fun e w' => ∃ s : Int, e = .returned (.int .i64 s) ∧ w' = w ∧ decide (s < 0) = (neg && !l.isEmpty) := by
    intro w h0 h1
    have key0 := key 0
    have key1 := key 1
    have key2 := key (-1)
    clear key hz0 hz hb HR HN
    have K0 := Aside0.mk key0
    have K1 := Aside0.mk key1
    have K2 := Aside0.mk key2
    clear key0 key1 key2
    by_cases hl : l.length = 0
    · have hl' : ((l.length : Int) == 0) = true := by simp [hl]
      clear hl
      go_enter Tryz.func39, Tryz.ntmps39
      go_wp2
      go_ret
      exact ⟨0, rfl, rfl, K0.out (by rw [if_pos (by simpa using hl')])⟩
    · have hl' : ((l.length : Int) == 0) = false := by simpa using hl
      clear hl
      cases neg
      · go_enter Tryz.func39, Tryz.ntmps39
        go_wp2
        go_ret
        exact ⟨1, rfl, rfl, K1.out (by rw [if_neg (by simpa using hl')]; rfl)⟩
      · go_enter Tryz.func39, Tryz.ntmps39
        go_wp2
        go_ret
        exact ⟨-1, rfl, rfl, K2.out (by rw [if_neg (by simpa using hl')]; rfl)⟩
  go_enter Tryz.func21, Tryz.ntmps21
  go_wp2_with (fail)
  refine (sign _ (by go_simp) (by go_simp)).mono ?_
  rintro e w' ⟨s, rfl, rfl, hs⟩
  have HS := Aside0.mk hs
  clear hs key sign
  go_wp2_with (fail)
  refine (wordsOf_any b o A c l _ (by go_simp) HR.out HN.out).mono ?_
  rintro e w1 ⟨v, rfl, hv, hb1⟩
  obtain ⟨A1, c1, e1⟩ := Kd.R_slice hv
  subst e1
  obtain ⟨hc, hf⟩ := bcell hb1
  have hs := hb1.size
  have HV := Aside0.mk hv
  have HB := Aside0.mk (Below.trans ((Below.refl w.heap.size w).alloc (Nat.le_refl _) (.cells #[.bool false, .slice none 0 0] 24)) (hb1.mono (by simp)))
  clear hb1 hv
  simp at hc hf hs
  go_wp2_with (fail)
  refine bodyPost_ret (v := .agg #[.bool (decide (s < 0)), .slice A1 l.length c1]) (by simp [results, Tryz.results21, go_sem, hc]) rfl ?_
  refine ⟨_, by rw [HS.out], ?_, ?_⟩
  · refine Kd.R_mono (Kd.R_lower (Kd.R_far (Kd.R_far HV.out ?_ _) ?_ _) (by simp)) ?_
    · intro k hk; simp at hk; simp; omega
    · intro k hk; simp at hk; simp; omega
    · intro k hk; simp at hk; omega
  · exact (HB.out.setCell (by simp) _).setCell (by simp) _
end Go.Proofs.YtgpgacnnkjiadaaGreatDoor
