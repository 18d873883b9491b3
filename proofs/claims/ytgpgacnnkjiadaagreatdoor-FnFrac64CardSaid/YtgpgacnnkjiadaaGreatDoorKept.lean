/-
  WORDS FOR WRITES IN PLACE: 'Kept S w w'': all blocks but those of S are as they were.
-/
import Derived.Test.YtgpgacnnkjiadaaGreatDoorNat
import Derived.Test.YtgpgacnnkjiadaaGreatDoorFlm
import Derived.Deep.RegionLaw
namespace Go.Proofs.YtgpgacnnkjiadaaGreatDoor.Sp
open Go.RowKit Go.Proofs.YtgpgacnnkjiadaaGreatDoorW.PrintWords Go.Proofs.YtgpgacnnkjiadaaGreatDoorW.PrintLast Go.Proofs.YtgpgacnnkjiadaaGreatDoorW.PrintMore Go.Proofs.YtgpgacnnkjiadaaGreatDoor.Dig
set_option linter.unusedVariables false
set_option linter.unusedSimpArgs false

/-- All blocks that there were, but those of S, are as they were. -/
structure Kept (S : Nat → Prop) (w w' : World) : Prop where
  os : w'.os = w.os
  tape : w'.tape = w.tape
  output : w'.output = w.output
  size : w.heap.size ≤ w'.heap.size
  block : ∀ k, k < w.heap.size → ¬ S k → w'.heap[k]? = w.heap[k]?
/-- One block; two. -/
def On (g : Nat) : Nat → Prop := fun k => k = g
def On2 (g b : Nat) : Nat → Prop := fun k => k = g ∨ k = b
theorem Kept.refl (S : Nat → Prop) (w : World) : Kept S w w := ⟨rfl, rfl, rfl, Nat.le_refl _, fun _ _ _ => rfl⟩
theorem Kept.trans {S T : Nat → Prop} {a b c : World} (h : Kept S a b) (k : Kept T b c) (hT : ∀ i, i < a.heap.size → T i → S i) : Kept S a c :=
  ⟨k.os.trans h.os, k.tape.trans h.tape, k.output.trans h.output, Nat.le_trans h.size k.size, fun i hi hS => (k.block i (Nat.lt_of_lt_of_le hi h.size) (fun ht => hS (hT i hi ht))).trans (h.block i hi hS)⟩
theorem Kept.then {S : Nat → Prop} {a b c : World} (h : Kept S a b) (k : Kept S b c) : Kept S a c := h.trans k (fun _ _ h => h)
theorem Kept.mono {S T : Nat → Prop} {a b : World} (h : Kept S a b) (hST : ∀ i, i < a.heap.size → S i → T i) : Kept T a b := ⟨h.os, h.tape, h.output, h.size, fun i hi hT => h.block i hi (fun hs => hT (hST i hi hs))⟩
theorem Kept.of_below {S : Nat → Prop} {a b : World} (h : Below a.heap.size a b) : Kept S a b := ⟨h.os, h.tape, h.output, h.size, fun i hi _ => h.block i hi⟩
theorem Kept.below {S : Nat → Prop} {a b : World} {B : Nat} (h : Kept S a b) (hS : ∀ i, S i → B ≤ i) (hB : B ≤ a.heap.size) : Below B a b := ⟨h.os, h.tape, h.output, h.size, fun i hi => h.block i (by omega) (fun hs => by have := hS i hs; omega)⟩
theorem Kept.drew {S : Nat → Prop} {a w : World} (h : Kept S a w) : Kept S a w.drew := ⟨h.os, h.tape, h.output, h.size, h.block⟩
theorem Kept.alloc {S : Nat → Prop} {a w : World} (h : Kept S a w) (o : Obj) : Kept S a (w.alloc o) :=
  h.trans (T := fun _ => False) (Kept.of_below (below_alloc (Below.refl _ _) _)) (fun _ _ h => h.elim)
theorem Kept.setCell {S : Nat → Prop} {a w : World} (h : Kept S a w) {p : Addr} (hp : S p.block ∨ a.heap.size ≤ p.block) (u : Value) : Kept S a (w.setCell p u) :=
  ⟨h.os, h.tape, h.output, by simpa [World.setCell] using h.size, fun k hk hS => by
    rw [Below.heap_setCell _ _ _ _ (by
      intro e; subst e
      rcases hp with hp | hp
      · exact hS hp
      · omega)]
    exact h.block k hk hS⟩
theorem Kept.setRow {S : Nat → Prop} {a w : World} (h : Kept S a w) {g : Nat} (hp : S g ∨ a.heap.size ≤ g) (cs : Array Value) : Kept S a (w.setRow g cs) :=
  ⟨h.os, h.tape, h.output, by simpa [World.setRow] using h.size, fun k hk hS => by
    rw [setRow_other w g k cs (by
      intro e; subst e
      rcases hp with hp | hp
      · exact hS hp
      · omega)]
    exact h.block k hk hS⟩
theorem hp_kept {S : Nat → Prop} {w w1 : World} {k : Nat} {o : Obj} (h : hp w k = some o) (hk : Kept S w w1) (hS : ¬ S k) : hp w1 k = some o := (hk.block k (hp_lt h) hS).trans h
theorem Kept.cell {S : Nat → Prop} {w w' : World} (h : Kept S w w') {p : Addr} {v : Value} (hv : w.cell? p = some v) (hS : ¬ S p.block) : w'.cell? p = some v := by
  rw [World.cell?_of_block (w := w) (h.block p.block (World.block_lt_of_cell? w _ hv) hS)]
  exact hv
theorem C_kept {S : Nat → Prop} {w w' : World} {k : IntKind} {a : Addr} {l : List Int} (hk : Kept S w w') (h : Kd.C (Kd.int k) w (some a) l.length l) (hS : 0 < l.length → ¬ S a.block) : Kd.C (Kd.int k) w' (some a) l.length l := by
  obtain ⟨h1, h2, h3⟩ := h
  refine ⟨h1, h2, fun h0 => ?_⟩
  obtain ⟨ad, e, hc⟩ := h3 h0
  refine ⟨ad, e, fun j p hj => ?_⟩
  obtain ⟨cs, g1, g2, g3⟩ := hc j p hj
  refine ⟨cs, g1, g2, fun i u hu => hk.cell (g3 i u hu) ?_⟩
  cases e
  rw [show (a.add (j * (Kd.int k).sz + i)).block = a.block from by unfold Addr.add; split <;> rfl]
  exact hS h0
/-- Cell j of a row that is read. -/
theorem C_at {w : World} {k : IntKind} {a : Addr} {l : List Int} (h : Kd.C (Kd.int k) w (some a) l.length l) (j : Nat) (hj : j < l.length) : w.cell? (a.add j) = some (.int k (l.getD j 0)) := by
  obtain ⟨ad, e, hx⟩ := Kd.at_int h (j : Int) (by omega) (by omega)
  cases e
  exact hx
theorem C_of_at {w : World} {k : IntKind} {a : Addr} {l : List Int} (hl : l.length ≤ 9223372036854775807) (h : ∀ j, j < l.length → w.cell? (a.add j) = some (.int k (l.getD j 0))) : Kd.C (Kd.int k) w (some a) l.length l := by
  refine ⟨rfl, hl, fun h0 => ⟨a, rfl, fun j p hj => ?_⟩⟩
  obtain ⟨hj1, hj2⟩ := List.getElem?_eq_some_iff.1 hj
  refine ⟨[.int k p], rfl, rfl, fun i u hu => ?_⟩
  cases i with
  | succ i => simp at hu
  | zero =>
    have hu' : u = .int k p := by simpa using hu.symm
    have := h j hj1
    rw [List.getD_eq_getElem?_getD, hj] at this
    show w.cell? (a.add (j * 1 + 0)) = some u
    rw [hu', Nat.mul_one, Nat.add_zero]
    exact this
theorem addr_add (a : Addr) (i m : Nat) : (a.add i).add m = a.add (i + m) := by
  unfold Addr.add
  by_cases h : i = 0
  · subst h
    simp
  · by_cases h2 : m = 0
    · subst h2
      simp [h]
    · simp [h, h2, Nat.add_assoc]
theorem C_sub {w : World} {k : IntKind} {ad : Addr} {l : List Int} (h : Kd.C (Kd.int k) w (some ad) l.length l) (i n : Nat) (hn : i + n ≤ l.length) : Kd.C (Kd.int k) w (some (ad.add i)) ((l.drop i).take n).length ((l.drop i).take n) := by
  obtain ⟨h1, h2, h3⟩ := h
  refine ⟨rfl, by simp; omega, fun h0 => ?_⟩
  have hl : ((l.drop i).take n).length = n := by simp; omega
  obtain ⟨ad', e, hc⟩ := h3 (by omega)
  cases e
  refine ⟨_, rfl, fun j p hj => ?_⟩
  have hj' : l[i + j]? = some p := by
    rw [List.getElem?_take] at hj
    split at hj
    · rw [List.getElem?_drop] at hj
      exact hj
    · cases hj
  obtain ⟨cs, g1, g2, g3⟩ := hc (i + j) p hj'
  refine ⟨cs, g1, g2, fun t u ht => ?_⟩
  have := g3 t u ht
  have e1 : (Kd.int k).sz = 1 := rfl
  rw [e1] at this ⊢
  rw [← this]
  congr 1
  rw [addr_add]
  congr 1
  omega
theorem add_spot (b o j : Nat) : (⟨b, o, none⟩ : Addr).add j = ⟨b, o + j, none⟩ := by
  unfold Addr.add
  split <;> simp_all

/-! ### copy into a row that is known whole, from wherever (the row itself too): all is read before anything is written -/
/-- The row behind a copy (a name of its own, so that the walk leaves it standing). -/
def laid {α : Type} (L : List α) (off : Nat) (cs : List α) : List α := L.take off ++ (cs ++ L.drop (off + cs.length))
theorem copy_world {P : Program} (w : World) (dT sT ty elem : TypeId) (hu : P.underlying dT = some (.slice elem)) (hsz : (P.info? elem).map (·.size) = some 1) (dp sp : Option Addr) (dLen dCap sLen sCap : Nat) (g off : Nat) (cur : List Value) (t : TypeId) (hg : w.heap[g]? = some (.cells cur.toArray t (0, 0))) (cs : List Value) (hn : cs.length = Nat.min sLen dLen)
    (hpos : 0 < cs.length → dp = some ⟨g, off, none⟩ ∧ ∃ ad, sp = some ad ∧ ∀ j v, cs[j]? = some v → w.cell? (ad.add j) = some v) (hfit : off + cs.length ≤ cur.length) (h1 : ∀ v ∈ cs, v.oneCell' = true) :
    ∃ w', (Builtin.copy_ #[dT, sT] ty #[.slice dp dLen dCap, .slice sp sLen sCap]).run P w = .ok (goInt cs.length) w' ∧ w'.heap[g]? = some (.cells (laid cur off cs).toArray t (0, 0)) ∧ Kept (On g) w w' := by
  by_cases h0 : cs.length = 0
  · obtain rfl : cs = [] := List.eq_nil_of_length_eq_zero h0
    exact ⟨w, run_copy_none (P := P) w dT sT ty elem dp sp dLen dCap sLen sCap hu hsz (by simpa using hn.symm), by simpa [laid] using hg, Kept.refl _ _⟩
  · obtain ⟨rfl, ad, rfl, hsrc⟩ := hpos (by omega)
    exact ⟨_, run_copy_row (P := P) w dT sT ty elem g off dLen dCap ad sLen sCap cur.toArray t cs hu hsz hg hn hsrc (by simpa using hfit) h1, by simpa [laid] using setRow_heap w g _ _ t _ hg, (Kept.refl (On g) w).setRow (.inl rfl) _⟩
theorem wpList_copy_kept {P : Program} {w : World} {ops : Array Oper} {rest : List Oper} {o : Oper} {a : Act} {Q : Exit → Act → World → Prop} (hgd : o.guard = none) (d s : Operand) (dT sT : TypeId)
    (ho : o.op = .call { callee := .builtin .copy, args := #[d, s], argTypes := #[dT, sT] }) (elem : TypeId) (hu : P.underlying dT = some (.slice elem)) (hsz : (P.info? elem).map (·.size) = some 1)
    (dp sp : Option Addr) (dLen dCap sLen sCap : Nat) (hd : a.eval d = .slice dp dLen dCap) (hs : a.eval s = .slice sp sLen sCap)
    (g off : Nat) (cur : List Value) (t : TypeId) (hg : w.heap[g]? = some (.cells cur.toArray t (0, 0))) (cs : List Value) (hn : cs.length = Nat.min sLen dLen)
    (hpos : 0 < cs.length → dp = some ⟨g, off, none⟩ ∧ ∃ ad, sp = some ad ∧ ∀ j v, cs[j]? = some v → w.cell? (ad.add j) = some v) (hfit : off + cs.length ≤ cur.length) (h1 : ∀ v ∈ cs, v.oneCell' = true)
    (h : ∀ w', Hid (w'.heap[g]? = some (.cells (laid cur off cs).toArray t (0, 0))) → Aside0 (Kept (On g) w w') → wpList P ops Q rest (a.put o.dst (goInt cs.length)) w') :
    wpList P ops Q (o :: rest) a w := by
  obtain ⟨w', hrun, h2, h3⟩ := copy_world (P := P) w dT sT o.type elem hu hsz dp sp dLen dCap sLen sCap g off cur t hg cs hn hpos hfit h1
  refine wpList_plain hgd fun K hK => ?_
  unfold Oper.wp
  simp [execOp, ho, resolve, invoke, builtin, hd, hs, hrun, Result.andThen]
  exact hK _ _ (h w' h2 ⟨h3⟩)
theorem step_copy_kept {P : Program} {ops : Array Oper} {o : Oper} {a : Act} {w : World} {K : Act → World → Prop} {Q : Exit → Act → World → Prop} {F : Prop} (hgd : o.guard = none) (d s : Operand) (dT sT : TypeId)
    (ho : o.op = .call { callee := .builtin .copy, args := #[d, s], argTypes := #[dT, sT] }) (elem : TypeId) (hu : P.underlying dT = some (.slice elem)) (hsz : (P.info? elem).map (·.size) = some 1)
    (dp sp : Option Addr) (dLen dCap sLen sCap : Nat) (hd : a.eval d = .slice dp dLen dCap) (hs : a.eval s = .slice sp sLen sCap)
    (g off : Nat) (cur : List Value) (t : TypeId) (hg : w.heap[g]? = some (.cells cur.toArray t (0, 0))) (cs : List Value) (hn : cs.length = Nat.min sLen dLen)
    (hpos : 0 < cs.length → dp = some ⟨g, off, none⟩ ∧ ∃ ad, sp = some ad ∧ ∀ j v, cs[j]? = some v → w.cell? (ad.add j) = some v) (hfit : off + cs.length ≤ cur.length) (h1 : ∀ v ∈ cs, v.oneCell' = true)
    (h : ∀ w', Hid (w'.heap[g]? = some (.cells (laid cur off cs).toArray t (0, 0))) → Aside0 (Kept (On g) w w') → K (a.put o.dst (goInt cs.length)) w') :
    if Region.wanted o (yielded ops a.tmps) = true then Oper.wp P o a w K Q else F := by
  have hw : Region.wanted o (yielded ops a.tmps) = true := by simp [Region.wanted, hgd]
  obtain ⟨w', hrun, h2, h3⟩ := copy_world (P := P) w dT sT o.type elem hu hsz dp sp dLen dCap sLen sCap g off cur t hg cs hn hpos hfit h1
  rw [if_pos hw]
  unfold Oper.wp
  simp [execOp, ho, resolve, invoke, builtin, hd, hs, hrun, Result.andThen]
  exact h w' h2 ⟨h3⟩
/-- The cells of a row of words that are copied. -/
theorem copy_src {w : World} {a : Addr} {l : List Int} (h : Kd.C (Kd.int .u64) w (some a) l.length l) (j : Nat) (v : Value) (hv : (l.map (Value.int .u64))[j]? = some v) : w.cell? (a.add j) = some v := by
  rw [List.getElem?_map] at hv
  cases e : l[j]? with
  | none => rw [e] at hv; cases hv
  | some x =>
    rw [e] at hv
    have hj := (List.getElem?_eq_some_iff.1 e).1
    have := C_at h j hj
    rw [List.getD_eq_getElem?_getD, e] at this
    rw [this]
    exact hv
theorem copy_one {l : List Int} (v : Value) (hv : v ∈ l.map (Value.int .u64)) : v.oneCell' = true := by
  simp at hv
  obtain ⟨x, _, rfl⟩ := hv
  rfl
theorem laid_u64 (Z : List Int) (off : Nat) (l : List Int) : (laid (Z.map (Value.int .u64)) off (l.map (Value.int .u64))).toArray = u64s (laid Z off l) := by
  unfold laid u64s
  simp [List.map_append, List.map_take, List.map_drop]
end Go.Proofs.YtgpgacnnkjiadaaGreatDoor.Sp
