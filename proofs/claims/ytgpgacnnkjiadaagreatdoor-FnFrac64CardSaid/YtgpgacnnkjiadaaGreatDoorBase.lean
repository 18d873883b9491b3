/-
  WORDS FOR THE WALKS of this seat: blocks that are known whole, facts that the walk's simp does not look into, what a slice of 64-bit words reads as.
-/
import Derived.Test.YtgpgacnnkjiadaaGreatDoorProg
import Derived.Outline
import Derived.WalkSpells
import Derived.WalkLawsBesides
import Derived.Laws.CopyOwn
import Derived.IntWalk
import Derived.BigQuiet
import Derived.Deep.QuietTactic
import Derived.RegionTactic
import Derived.Laws.BitsAllLaws
import Derived.Laws.Bits64
import Derived.Test.YtgpgacnnkjiadaaGreatDoorDig
import Derived.Test.YtgpgacnnkjiadaaGreatDoorWMore
namespace Go.Proofs.YtgpgacnnkjiadaaGreatDoor
open Go.RowKit Go.Proofs.YtgpgacnnkjiadaaGreatDoorW.PrintWords Go.Proofs.YtgpgacnnkjiadaaGreatDoorW.PrintLast Go.Proofs.YtgpgacnnkjiadaaGreatDoorW.PrintMore

theorem infoWord : (Tryz.prog.info? 67).map (fun i => (i.zero, i.size, i.bytes)) = some (some (.int .u64 0), 1, 8) := by kernel_rfl
theorem infoUint : (Tryz.prog.info? 45).map (fun i => (i.zero, i.size, i.bytes)) = some (some (.int .u64 0), 1, 8) := by kernel_rfl
theorem infoU8 : (Tryz.prog.info? 5).map (fun i => (i.zero, i.size, i.bytes)) = some (some (.int .u8 0), 1, 1) := by kernel_rfl

/-- Old cells and marks read in a later world as they did. -/
theorem bcell {W w1 : World} (hb : Below W.heap.size W w1) : (∀ b o, b < W.heap.size → w1.cell? ⟨b, o, none⟩ = W.cell? ⟨b, o, none⟩) ∧ (∀ b o, b < W.heap.size → w1.frozen? ⟨b, o, none⟩ = W.frozen? ⟨b, o, none⟩) :=
  ⟨fun b o h => hb.cell (p := ⟨b, o, none⟩) h, fun b o h => hb.frozen (p := ⟨b, o, none⟩) h⟩

/-! ### blocks, known whole: 'hp w k' is block k of w (behind a name of its own: simp would turn 'w.heap[k]?' where k is seen to be in bounds) -/
def hp (w : World) (k : Nat) : Option Obj := w.heap[k]?
theorem hp_of {w : World} {k : Nat} {o : Obj} (h : w.heap[k]? = some o) : hp w k = some o := h
theorem hp_out {w : World} {k : Nat} {o : Obj} (h : hp w k = some o) : w.heap[k]? = some o := h
theorem hp_lt {w : World} {k : Nat} {o : Obj} (h : hp w k = some o) : k < w.heap.size := blk_lt h
theorem hp_below {w w1 : World} {k : Nat} {o : Obj} (h : hp w k = some o) (hb : Below w.heap.size w w1) : hp w1 k = some o := blk_below h hb
def setObj (a : Addr) (v : Value) : Obj → Obj
  | .cells c e f => .cells (if a.spot.isSome then c else c.setIfInBounds a.off v) e f
  | o => o
theorem hp_alloc (w : World) (o : Obj) (k : Nat) : hp (w.alloc o) k = if k = w.heap.size then some o else hp w k := Array.getElem?_push
theorem hp_set (w : World) (a : Addr) (v : Value) (k : Nat) : hp (w.setCell a v) k = if a.block = k then (hp w k).map (setObj a v) else hp w k := by
  show (w.setCell a v).heap[k]? = if a.block = k then (w.heap[k]?).map (setObj a v) else w.heap[k]?
  have : (w.setCell a v).heap = w.heap.modify a.block (setObj a v) := by
    unfold World.setCell
    congr 1
  rw [this, Array.getElem?_modify]
theorem hp_new (w : World) (o : Obj) (k : Nat) (h : k = w.heap.size) : hp (w.alloc o) k = some o := by rw [hp_alloc, if_pos h]
theorem hp_old (w : World) (o : Obj) (k : Nat) (h : k < w.heap.size) : hp (w.alloc o) k = hp w k := by rw [hp_alloc, if_neg (by omega)]
theorem hp_here (w : World) (b i k : Nat) (v : Value) (h : b = k) : hp (w.setCell ⟨b, i, none⟩ v) k = (hp w k).map (setObj ⟨b, i, none⟩ v) := by rw [hp_set, if_pos h]
theorem hp_other (w : World) (a : Addr) (k : Nat) (v : Value) (h : a.block ≠ k) : hp (w.setCell a v) k = hp w k := by rw [hp_set, if_neg h]
theorem hp_drew (w : World) (k : Nat) : hp w.drew k = hp w k := rfl
theorem hp_drewN (w : World) (n k : Nat) : hp (w.drewN n) k = hp w k := rfl
theorem setObj_cells (b i : Nat) (v : Value) (c : Array Value) (e : TypeId) (f : Nat × Nat) : setObj ⟨b, i, none⟩ v (.cells c e f) = .cells (c.setIfInBounds i v) e f := rfl
theorem blk1 {w : World} {g : Nat} {t : TypeId} {a : Value} (h : hp w g = some (.cells #[a] t (0, 0))) : w.cell? ⟨g, 0, none⟩ = some a ∧ w.frozen? ⟨g, 0, none⟩ = false := ⟨(blk_cell h 0).trans rfl, blk_frozen h 0⟩
theorem blk2 {w : World} {g : Nat} {t : TypeId} {a b : Value} (h : hp w g = some (.cells #[a, b] t (0, 0))) :
    w.cell? ⟨g, 0, none⟩ = some a ∧ w.cell? ⟨g, 1, none⟩ = some b ∧ w.frozen? ⟨g, 0, none⟩ = false ∧ w.frozen? ⟨g, 1, none⟩ = false := ⟨(blk_cell h 0).trans rfl, (blk_cell h 1).trans rfl, blk_frozen h 0, blk_frozen h 1⟩
theorem blk3 {w : World} {g : Nat} {t : TypeId} {a b c : Value} (h : hp w g = some (.cells #[a, b, c] t (0, 0))) :
    w.cell? ⟨g, 0, none⟩ = some a ∧ w.cell? ⟨g, 1, none⟩ = some b ∧ w.cell? ⟨g, 2, none⟩ = some c ∧ w.frozen? ⟨g, 0, none⟩ = false ∧ w.frozen? ⟨g, 1, none⟩ = false ∧ w.frozen? ⟨g, 2, none⟩ = false :=
  ⟨(blk_cell h 0).trans rfl, (blk_cell h 1).trans rfl, (blk_cell h 2).trans rfl, blk_frozen h 0, blk_frozen h 1, blk_frozen h 2⟩
theorem blk4 {w : World} {g : Nat} {t : TypeId} {a b c d : Value} (h : hp w g = some (.cells #[a, b, c, d] t (0, 0))) :
    w.cell? ⟨g, 0, none⟩ = some a ∧ w.cell? ⟨g, 1, none⟩ = some b ∧ w.cell? ⟨g, 2, none⟩ = some c ∧ w.cell? ⟨g, 3, none⟩ = some d ∧ w.frozen? ⟨g, 0, none⟩ = false ∧ w.frozen? ⟨g, 1, none⟩ = false ∧ w.frozen? ⟨g, 2, none⟩ = false ∧ w.frozen? ⟨g, 3, none⟩ = false :=
  ⟨(blk_cell h 0).trans rfl, (blk_cell h 1).trans rfl, (blk_cell h 2).trans rfl, (blk_cell h 3).trans rfl, blk_frozen h 0, blk_frozen h 1, blk_frozen h 2, blk_frozen h 3⟩
theorem blk6 {w : World} {g : Nat} {t : TypeId} {a b c d e f : Value} (h : hp w g = some (.cells #[a, b, c, d, e, f] t (0, 0))) :
    w.cell? ⟨g, 0, none⟩ = some a ∧ w.cell? ⟨g, 1, none⟩ = some b ∧ w.cell? ⟨g, 2, none⟩ = some c ∧ w.cell? ⟨g, 3, none⟩ = some d ∧ w.cell? ⟨g, 4, none⟩ = some e ∧ w.cell? ⟨g, 5, none⟩ = some f ∧
      w.frozen? ⟨g, 0, none⟩ = false ∧ w.frozen? ⟨g, 1, none⟩ = false ∧ w.frozen? ⟨g, 2, none⟩ = false ∧ w.frozen? ⟨g, 3, none⟩ = false ∧ w.frozen? ⟨g, 4, none⟩ = false ∧ w.frozen? ⟨g, 5, none⟩ = false :=
  ⟨(blk_cell h 0).trans rfl, (blk_cell h 1).trans rfl, (blk_cell h 2).trans rfl, (blk_cell h 3).trans rfl, (blk_cell h 4).trans rfl, (blk_cell h 5).trans rfl, blk_frozen h 0, blk_frozen h 1, blk_frozen h 2, blk_frozen h 3, blk_frozen h 4, blk_frozen h 5⟩
theorem blk7 {w : World} {g : Nat} {t : TypeId} {a b c d e f k : Value} (h : hp w g = some (.cells #[a, b, c, d, e, f, k] t (0, 0))) :
    w.cell? ⟨g, 0, none⟩ = some a ∧ w.cell? ⟨g, 1, none⟩ = some b ∧ w.cell? ⟨g, 2, none⟩ = some c ∧ w.cell? ⟨g, 3, none⟩ = some d ∧ w.cell? ⟨g, 4, none⟩ = some e ∧ w.cell? ⟨g, 5, none⟩ = some f ∧ w.cell? ⟨g, 6, none⟩ = some k ∧
      w.frozen? ⟨g, 0, none⟩ = false ∧ w.frozen? ⟨g, 1, none⟩ = false ∧ w.frozen? ⟨g, 2, none⟩ = false ∧ w.frozen? ⟨g, 3, none⟩ = false ∧ w.frozen? ⟨g, 4, none⟩ = false ∧ w.frozen? ⟨g, 5, none⟩ = false ∧ w.frozen? ⟨g, 6, none⟩ = false :=
  ⟨(blk_cell h 0).trans rfl, (blk_cell h 1).trans rfl, (blk_cell h 2).trans rfl, (blk_cell h 3).trans rfl, (blk_cell h 4).trans rfl, (blk_cell h 5).trans rfl, (blk_cell h 6).trans rfl, blk_frozen h 0, blk_frozen h 1, blk_frozen h 2, blk_frozen h 3, blk_frozen h 4, blk_frozen h 5, blk_frozen h 6⟩

/-- A block of one word is read as a row of one. -/
theorem blk_C {w : World} {g : Nat} {t : TypeId} {cs : Array Value} {k : IntKind} (l : List Int) (h : hp w g = some (.cells cs t (0, 0))) (off : Nat) (hl : l.length ≤ 9223372036854775807) (hc : ∀ i, i < l.length → cs[off + i]? = some (.int k (l.getD i 0))) : Kd.C (Kd.int k) w (some ⟨g, off, none⟩) l.length l := by
  refine ⟨rfl, hl, fun _ => ⟨_, rfl, fun j p hj => ⟨[.int k p], rfl, rfl, fun i u hu => ?_⟩⟩⟩
  cases i with
  | succ i => simp at hu
  | zero =>
    have hu' : u = .int k p := by simpa using hu.symm
    subst hu'
    obtain ⟨hjl, hjp⟩ := List.getElem?_eq_some_iff.1 hj
    have h1 := hc j hjl
    have h2 : l.getD j 0 = p := by rw [List.getD_eq_getElem?_getD, hj]; rfl
    rw [h2] at h1
    have h3 : (⟨g, off, none⟩ : Addr).add (j * (Kd.int k).sz + 0) = ⟨g, off + j, none⟩ := by
      show (⟨g, off, none⟩ : Addr).add (j * 1 + 0) = _
      rw [Nat.mul_one, Nat.add_zero]
      unfold Addr.add
      split <;> simp_all
    rw [h3, blk_cell h, h1]
theorem lit1_C {w : World} (g : Nat) (t : TypeId) (k : IntKind) (x : Int) (h : hp w g = some (.cells #[.int k x] t (0, 0))) : Kd.C (Kd.int k) w (some ⟨g, 0, none⟩) ([x] : List Int).length [x] :=
  blk_C [x] h 0 (by simp) (fun i hi => by
    have : i = 0 := by simpa using hi
    subst this
    rfl)

theorem blk_V {w : World} {g : Nat} {t : TypeId} {cs : Array Value} {k : IntKind} {l : List Int} {n off c e base : Nat} {ok : Nat → Prop} (h : hp w g = some (.cells cs t (0, 0))) (hn : l.length = n) (hl : n ≤ 9223372036854775807) (hlc : n ≤ c) (hok : ok g) (hc : ∀ i, i < n → cs[off + i]? = some (.int k (l.getD i 0))) :
    Kd.V (Kd.int k) e w base ok (.slice (some ⟨g, off, none⟩) n c) l := by
  subst hn
  exact Kd.V_mk hlc (fun W' hW' => blk_C l (show hp W' g = _ from (hW' g hok (hp_lt h)).trans h) off hl hc)

theorem wf_i64 {a : Int} (h : (Lit.int .i64 a).wf = true) : -9223372036854775808 ≤ a ∧ a ≤ 9223372036854775807 := by simpa [Lit.wf, IntKind.min, IntKind.max, IntKind.bits, IntKind.signed] using h
theorem wf_i8 {a : Int} (h : (Lit.int .i8 a).wf = true) : -128 ≤ a ∧ a ≤ 127 := by simpa [Lit.wf, IntKind.min, IntKind.max, IntKind.bits, IntKind.signed] using h
theorem wf_u64 {a : Int} (h : (Lit.int .u64 a).wf = true) : 0 ≤ a ∧ a < 18446744073709551616 := by
  have : 0 ≤ a ∧ a ≤ 18446744073709551615 := by simpa [Lit.wf, IntKind.min, IntKind.max, IntKind.bits, IntKind.signed] using h
  omega
theorem wf_u8 {a : Int} (h : (Lit.int .u8 a).wf = true) : 0 ≤ a ∧ a < 256 := by
  have : 0 ≤ a ∧ a ≤ 255 := by simpa [Lit.wf, IntKind.min, IntKind.max, IntKind.bits, IntKind.signed] using h
  omega
theorem wf_u16 {a : Int} (h : (Lit.int .u16 a).wf = true) : 0 ≤ a ∧ a < 65536 := by
  have : 0 ≤ a ∧ a ≤ 65535 := by simpa [Lit.wf, IntKind.min, IntKind.max, IntKind.bits, IntKind.signed] using h
  omega

end Go.Proofs.YtgpgacnnkjiadaaGreatDoor
