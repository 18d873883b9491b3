/-
  OPENING A LAW's ARGUMENTS: integers, bools, strings; slices of integers; the thin package's structs (Number, Fraction, Real).
-/
import Derived.Test.YtfnknldbjckgoaaGreatDoorRows
import Derived.Test.YtfnknldbjckgoaaGreatDoorZBase
import Derived.Test.YtfnknldbjckgoaaGreatDoorZWSized
import Derived.ProofKit
import Derived.OpenShut
import Derived.ShutString
import Derived.ChangeOld
import Derived.SizedLaws
import Derived.Lib.SmallJoins
import Derived.Deep.Fields
namespace Go.Proofs.YtfnknldbjckgoaaGreatDoor
open Go.ChangeShapes Go.WideShapes Go.ChangeAt Go.RowKit Go.Proofs.YtfnknldbjckgoaaGreatDoorW.PrintWords Go.Joins Go.Deep
open Go.ChangeMaps (open_string shut_string)
set_option linter.unusedVariables false
set_option linter.unusedSimpArgs false

theorem own : ownKnob Tryz.prog.godebug = none := by kernel_rfl
theorem laidOut : laidOutB Tryz.prog = true := by kernel_rfl
/-- A slice that came in: it reads as a list of numbers of its kind. -/
def InInts (k : IntKind) (w : World) (v : Value) (l : List Int) : Prop :=
  ∃ A c, v = .slice A l.length c ∧ l.length ≤ c ∧ Kd.C (Kd.int k) w A l.length l ∧ ∀ x ∈ l, (Lit.int k x).wf = true

theorem len6 {α : Type} {l : List α} (h : l.length = 6) : ∃ a b c d e f, l = [a, b, c, d, e, f] := by
  match l, h with
  | [a, b, c, d, e, f], _ => exact ⟨a, b, c, d, e, f, rfl⟩
section
variable {H : Type} {enc : TypeId × Value → H} {P : Program} {w : World} {base : Nat} {held : Bool}
theorem ints_of_trod {t e : TypeId} {k : IntKind} {fuel : Nat} {cs : List Value} {x : DataW H × List MemPlace} (hu : P.underlying t = some (.slice e)) (he : P.underlying e = some (.int k)) (hc : P.cellsOf e = 1)
    (hf : DataW.trod enc P w base (fun _ => true) held fuel t cs = some x) : ∃ v l, cs = [v] ∧ InInts k w v l := by
  rcases open_ints hu he hc hf with ⟨hcs, _⟩ | ⟨a, len, cap, zs, hcs, _, hl, hm, hz, _, hcell, hwz⟩
  · exact ⟨_, [], hcs, none, 0, rfl, Nat.le_refl _, Kd.C_nil _ _, fun x hx => by simp at hx⟩
  · have hz' : zs.length = cap := by simpa using hz
    obtain ⟨l, e1, h1, h2, h3, h4⟩ := ReadsInt.ofRowC (w := w) (a := some a) (len := len) (cap := cap) (zs := zs) (k := k) (.inr ⟨a, rfl, hl, hm, hz', hcell, hwz⟩)
    subst e1
    exact ⟨_, l, hcs, some a, cap, rfl, h4, Kd.C_of_reads (d := (0 : Int)) (h1 := fun _ => rfl) h1, h3⟩
theorem cells_real : Tryz.prog.cellsOf 25 = 6 := by kernel_rfl
theorem cells_u : Tryz.prog.cellsOf 22 = 1 := by kernel_rfl
theorem cells_i : Tryz.prog.cellsOf 3 = 1 := by kernel_rfl
theorem cells_b : Tryz.prog.cellsOf 4 = 1 := by kernel_rfl
theorem cells_us : Tryz.prog.cellsOf 23 = 1 := by kernel_rfl
/-- A Real that came in: precision, mode, form, sign, words, exponent. -/
theorem real_of_trod {fuel : Nat} {cs : List Value} {x : DataW H × List MemPlace} (hf : DataW.trod enc Tryz.prog w base (fun _ => true) held fuel 25 cs = some x) :
    ∃ p m f b v l e, cs = [.int .u64 p, .int .i64 m, .int .i64 f, .bool b, v, .int .i64 e] ∧ InInts .u64 w v l ∧ (Lit.int .u64 p).wf = true ∧ (Lit.int .i64 m).wf = true ∧ (Lit.int .i64 f).wf = true ∧ (Lit.int .i64 e).wf = true := by
  obtain ⟨xs, n, _, _, hl, hlen, hg⟩ := DataW.trod_struct Tryz.underlying25 hf
  obtain ⟨c0, c1, c2, c3, c4, c5, rfl⟩ := len6 (hl.trans cells_real)
  obtain ⟨y0, y1, y2, y3, y4, y5, rfl⟩ := len6 hlen
  have g0 := hg 0 _ rfl
  have g1 := hg 1 _ rfl
  have g2 := hg 2 _ rfl
  have g3 := hg 3 _ rfl
  have g4 := hg 4 _ rfl
  have g5 := hg 5 _ rfl
  have h0 : DataW.trod enc Tryz.prog w base (fun _ => true) held n 22 ((([c0, c1, c2, c3, c4, c5] : List Value).drop 0).take (Tryz.prog.cellsOf 22)) = some y0 := g0
  have h1 : DataW.trod enc Tryz.prog w base (fun _ => true) held n 3 ((([c0, c1, c2, c3, c4, c5] : List Value).drop 1).take (Tryz.prog.cellsOf 3)) = some y1 := g1
  have h2 : DataW.trod enc Tryz.prog w base (fun _ => true) held n 3 ((([c0, c1, c2, c3, c4, c5] : List Value).drop 2).take (Tryz.prog.cellsOf 3)) = some y2 := g2
  have h3 : DataW.trod enc Tryz.prog w base (fun _ => true) held n 4 ((([c0, c1, c2, c3, c4, c5] : List Value).drop 3).take (Tryz.prog.cellsOf 4)) = some y3 := g3
  have h4 : DataW.trod enc Tryz.prog w base (fun _ => true) held n 23 ((([c0, c1, c2, c3, c4, c5] : List Value).drop 4).take (Tryz.prog.cellsOf 23)) = some y4 := g4
  have h5 : DataW.trod enc Tryz.prog w base (fun _ => true) held n 3 ((([c0, c1, c2, c3, c4, c5] : List Value).drop 5).take (Tryz.prog.cellsOf 3)) = some y5 := g5
  rw [cells_u] at h0
  rw [cells_i] at h1 h2 h5
  rw [cells_b] at h3
  rw [cells_us] at h4
  obtain ⟨a0, e0, _, w0⟩ := DataW.trod_int Tryz.underlying22 h0
  obtain ⟨a1, e1, _, w1⟩ := DataW.trod_int Tryz.underlying3 h1
  obtain ⟨a2, e2, _, w2⟩ := DataW.trod_int Tryz.underlying3 h2
  obtain ⟨a3, e3, _⟩ := DataW.trod_bool Tryz.underlying4 h3
  obtain ⟨v, l, e4, hv⟩ := ints_of_trod Tryz.underlying23 Tryz.underlying22 (by kernel_rfl) h4
  obtain ⟨a5, e5, _, w5⟩ := DataW.trod_int Tryz.underlying3 h5
  simp at e0 e1 e2 e3 e4 e5
  subst e0 e1 e2 e3 e4 e5
  exact ⟨_, _, _, _, _, _, _, rfl, hv, w0, w1, w2, w5⟩
end
end Go.Proofs.YtfnknldbjckgoaaGreatDoor
