/-
  CONTRACT of the thin package's 'of': a new Int of a number.
-/
import Derived.Test.YtgpgacnnkjiadaaGreatDoorRatImpl
import Derived.Test.YtgpgacnnkjiadaaGreatDoorWLast
namespace Go.Proofs.YtgpgacnnkjiadaaGreatDoor.Sp
open Go.RowKit Go.Proofs.YtgpgacnnkjiadaaGreatDoorW.PrintWords Go.Proofs.YtgpgacnnkjiadaaGreatDoorW.PrintLast Go.Proofs.YtgpgacnnkjiadaaGreatDoorW.PrintMore Go.Proofs.YtgpgacnnkjiadaaGreatDoor.Dig
set_option linter.unusedVariables false
set_option linter.unusedSimpArgs false

/-! ### of -/
/-- An Int in memory (its own block): sign, words. -/
def IntB (w : World) (g : Nat) (neg : Bool) (n : Int) : Prop := ∃ v, hp w g = some (.cells #[.bool neg, v] 38 (0, 0)) ∧ Wd w v n
theorem IntB.below {w w1 : World} {g : Nat} {neg : Bool} {n : Int} (h : IntB w g neg n) (hb : Below w.heap.size w w1) : IntB w1 g neg n := by
  obtain ⟨v, h1, h2⟩ := h
  exact ⟨v, hp_below h1 hb, h2.below hb⟩
theorem C_take {w : World} {k : IntKind} {A : Option Addr} {l : List Int} (h : Kd.C (Kd.int k) w A l.length l) (m : Nat) (hm : m ≤ l.length) : Kd.C (Kd.int k) w A (l.take m).length (l.take m) := by
  obtain ⟨h1, h2, h3⟩ := h
  have hl : (l.take m).length = m := by rw [List.length_take, Nat.min_eq_left hm]
  refine ⟨rfl, by omega, fun h0 => ?_⟩
  obtain ⟨ad, e, hc⟩ := h3 (by omega)
  refine ⟨ad, e, fun j p hj => hc j p ?_⟩
  rw [List.getElem?_take] at hj
  split at hj
  · exact hj
  · cases hj
theorem strip_wd {w : World} {A : Option Addr} {c : Nat} {l : List Int} (h : Kd.C (Kd.int .u64) w A l.length l) (hlc : l.length ≤ c) (hok : okd BW l) : Wd w (.slice A (strip l).length c) (ev BW l) := by
  obtain ⟨s1, s2, k, s3, s4⟩ := strip_cn l hok
  refine ⟨A, c, strip l, rfl, ?_, ?_, s1, s2⟩
  · rw [s4, List.length_take]; omega
  · rw [s4]; exact C_take h k s3
/-! ### Int.Set, Rat.SetInt -/
theorem set_nil_wd (v : Value) (n : Int) (w : World) (h : Wd w v n) (hn : n < Lim) :
    Calls Tryz.prog 64 #[.slice none 0 0, v] w fun e w' => ∃ A m c, e = .returned (.slice A m c) ∧ Wd w' (.slice A m c) n ∧ Below w.heap.size w w' := by
  obtain ⟨A, c, l, e, h2, h3, h4, h5⟩ := h
  have := Lim_lenW h4 (by rw [h5]; exact hn)
  refine (set_nil v l w ⟨A, c, e, h2, h3, h4.ok⟩ (by omega)).mono ?_
  rintro e' w' ⟨u, rfl, hb, hu⟩
  rcases hu with ⟨rfl, rfl⟩ | ⟨_, m, hm, he⟩
  · rw [ev_nil] at h5
    subst h5
    exact ⟨none, 0, 0, rfl, Wd.nil _, hb⟩
  · have h6 := hm.wd (by rw [he]; exact h4)
    rw [he, h5] at h6
    rw [hm.val] at h6 ⊢
    exact ⟨_, _, _, rfl, h6, hb⟩
/-- What 'Set' leaves: z's two cells hold the sign and a slice of its own. -/
def SetPost (w : World) (bz oz : Nat) (nx : Bool) (n : Int) (e : Ending) (w' : World) : Prop :=
  ∃ A m c w1, e = .returned (.pointer (some ⟨bz, oz, none⟩)) ∧ w' = (w1.setCell ⟨bz, oz + 1, none⟩ (.slice A m c)).setCell ⟨bz, oz, none⟩ (.bool nx) ∧ Wd w1 (.slice A m c) n ∧ Below w.heap.size w w1
theorem words_Lim {l : List Int} (h : okd BW l) (hl : l.length ≤ 25000) : ev BW l < Lim := by
  have h5 := ev_lt h BW_pos
  have h6 : BW ^ l.length ≤ BW ^ 25000 := pow_mono BW_pos hl
  have h7 : (BW : Int) ^ 25000 = Lim := by
    rw [Lim_def, BW_BH, ← Int.pow_mul]
  omega
end Go.Proofs.YtgpgacnnkjiadaaGreatDoor.Sp
