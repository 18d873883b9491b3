/-
  OPENING A LAW's ARGUMENTS: integers, bools, strings; slices of integers; the thin package's structs (Number, Fraction, Real).
-/
import Derived.Test.YtgpgacnnkjiadaaGreatDoorRows
import Derived.Test.YtgpgacnnkjiadaaGreatDoorBase
import Derived.Test.YtgpgacnnkjiadaaGreatDoorWSized
import Derived.ProofKit
import Derived.OpenShut
import Derived.ShutString
import Derived.ChangeOld
import Derived.SizedLaws
import Derived.Lib.SmallJoins
import Derived.Deep.Fields
namespace Go.Proofs.YtgpgacnnkjiadaaGreatDoor
open Go.ChangeShapes Go.WideShapes Go.ChangeAt Go.RowKit Go.Proofs.YtgpgacnnkjiadaaGreatDoorW.PrintWords Go.Joins Go.Deep
open Go.ChangeMaps (open_string shut_string)
set_option linter.unusedVariables false
set_option linter.unusedSimpArgs false

theorem own : ownKnob Tryz.prog.godebug = none := by kernel_rfl
theorem laidOut : laidOutB Tryz.prog = true := by kernel_rfl
def IsRow (k : IntKind) (w : World) (a : Option Addr) (len cap : Nat) (zs : List Int) : Prop :=
  (a = none ∧ len = 0 ∧ cap = 0 ∧ zs = []) ∨
  ∃ x, a = some x ∧ len ≤ cap ∧ cap ≤ maxLen ∧ zs.length = cap ∧ (∀ i, i < zs.length → w.cell? (x.add i) = some (.int k (zs.getD i 0))) ∧ ∀ n ∈ zs, (Lit.int k n).wf = true

/-- A slice that came in: it reads as a list of numbers of its kind. -/
def InInts (k : IntKind) (w : World) (v : Value) (l : List Int) : Prop :=
  ∃ A c, v = .slice A l.length c ∧ l.length ≤ c ∧ Kd.C (Kd.int k) w A l.length l ∧ ∀ x ∈ l, (Lit.int k x).wf = true

theorem len2 {α : Type} {l : List α} (h : l.length = 2) : ∃ a b, l = [a, b] := by
  match l, h with
  | [a, b], _ => exact ⟨a, b, rfl⟩
theorem len3 {α : Type} {l : List α} (h : l.length = 3) : ∃ a b c, l = [a, b, c] := by
  match l, h with
  | [a, b, c], _ => exact ⟨a, b, c, rfl⟩
theorem len6 {α : Type} {l : List α} (h : l.length = 6) : ∃ a b c d e f, l = [a, b, c, d, e, f] := by
  match l, h with
  | [a, b, c, d, e, f], _ => exact ⟨a, b, c, d, e, f, rfl⟩
section
variable {H : Type} {enc : TypeId × Value → H} {P : Program} {w : World} {base : Nat} {held : Bool}
theorem ints_of_trod {t e : TypeId} {k : IntKind} {fuel : Nat} {cs : List Value} {x : DataW H × List MemPlace} (hu : P.underlying t = some (.slice e)) (he : P.underlying e = some (.int k)) (hc : P.cellsOf e = 1)
    (hf : DataW.trod enc P w base (fun _ => true) held fuel t cs = some x) : ∃ v l, cs = [v] ∧ InInts k w v l := by
  rcases open_ints hu he hc hf with ⟨hcs, _⟩ | ⟨a, len, cap, zs, hcs, _, hl, hm, hz, _, hcell, hwz⟩
  · exact ⟨_, [], hcs, none, 0, rfl, Nat.le_refl _, Kd.C_nil _ _, fun x hx => by simp at hx⟩
  · have hz' : zs.length = cap := by simpa using hz
    obtain ⟨l, e1, h1, h2, h3, h4⟩ := ReadsInt.ofRowC (w := w) (a := some a) (len := len) (cap := cap) (zs := zs) (k := k) (.inr ⟨a, rfl, hl, hm, hz', hcell, hwz⟩)
    subst e1
    exact ⟨_, l, hcs, some a, cap, rfl, h4, Kd.C_of_reads (d := (0 : Int)) (h1 := fun _ => rfl) h1, h3⟩
theorem cells_bool : Tryz.prog.cellsOf 4 = 1 := by kernel_rfl
theorem cells_ints : Tryz.prog.cellsOf 22 = 1 := by kernel_rfl
theorem cells_number : Tryz.prog.cellsOf 24 = 2 := by kernel_rfl
/-- A Number that came in: sign, words. -/
theorem number_of_trod {fuel : Nat} {cs : List Value} {x : DataW H × List MemPlace} (hf : DataW.trod enc Tryz.prog w base (fun _ => true) held fuel 24 cs = some x) :
    ∃ b v l, cs = [.bool b, v] ∧ InInts .u64 w v l := by
  obtain ⟨y0, y1, n, _, hl, h0, h1⟩ := trod_struct2 Tryz.underlying24 hf
  obtain ⟨c0, c1, rfl⟩ := len2 (hl.trans cells_number)
  have h0' : DataW.trod enc Tryz.prog w base (fun _ => true) held n 4 ((([c0, c1] : List Value).drop 0).take (Tryz.prog.cellsOf 4)) = some y0 := h0
  have h1' : DataW.trod enc Tryz.prog w base (fun _ => true) held n 22 ((([c0, c1] : List Value).drop 1).take (Tryz.prog.cellsOf 22)) = some y1 := h1
  rw [cells_bool] at h0'
  rw [cells_ints] at h1'
  obtain ⟨b, e0, _⟩ := DataW.trod_bool Tryz.underlying4 h0'
  obtain ⟨v, l, e1, hv⟩ := ints_of_trod Tryz.underlying22 Tryz.underlying45 (by kernel_rfl) h1'
  simp at e0 e1
  subst e0 e1
  exact ⟨b, _, l, rfl, hv⟩
theorem cells_fraction : Tryz.prog.cellsOf 26 = 3 := by kernel_rfl
/-- A Fraction that came in: sign, words, words. -/
theorem fraction_of_trod {fuel : Nat} {cs : List Value} {x : DataW H × List MemPlace} (hf : DataW.trod enc Tryz.prog w base (fun _ => true) held fuel 26 cs = some x) :
    ∃ b v l v' l', cs = [.bool b, v, v'] ∧ InInts .u64 w v l ∧ InInts .u64 w v' l' := by
  obtain ⟨y0, y1, n, _, hl, h0, h1⟩ := trod_struct2 Tryz.underlying26 hf
  obtain ⟨c0, c1, c2, rfl⟩ := len3 (hl.trans cells_fraction)
  have h0' : DataW.trod enc Tryz.prog w base (fun _ => true) held n 24 ((([c0, c1, c2] : List Value).drop 0).take (Tryz.prog.cellsOf 24)) = some y0 := h0
  have h1' : DataW.trod enc Tryz.prog w base (fun _ => true) held n 22 ((([c0, c1, c2] : List Value).drop 2).take (Tryz.prog.cellsOf 22)) = some y1 := h1
  rw [cells_number] at h0'
  rw [cells_ints] at h1'
  obtain ⟨b, v, l, e0, hv⟩ := number_of_trod h0'
  obtain ⟨v', l', e1, hv'⟩ := ints_of_trod Tryz.underlying22 Tryz.underlying45 (by kernel_rfl) h1'
  simp at e0 e1
  obtain ⟨rfl, rfl⟩ := e0
  subst e1
  exact ⟨b, _, l, _, l', rfl, hv, hv'⟩
end
end Go.Proofs.YtgpgacnnkjiadaaGreatDoor
