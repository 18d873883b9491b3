/-
  BYTES THAT ARE PUT TOGETHER: a slice of bytes of the call's own ('Bu'), and what append does to it.
-/
import Derived.Test.YtfnknldbjckgoaaGreatDoorZGnat
import Derived.Lib.AppendStr
namespace Go.Proofs.YtfnknldbjckgoaaGreatDoor.Sp
open Go.RowKit Go.Proofs.YtfnknldbjckgoaaGreatDoorW.PrintWords Go.Proofs.YtfnknldbjckgoaaGreatDoorW.PrintLast Go.Proofs.YtfnknldbjckgoaaGreatDoorW.PrintMore Go.Proofs.YtfnknldbjckgoaaGreatDoor.Dig
set_option linter.unusedVariables false
set_option linter.unusedSimpArgs false
/-- Bytes of the call's own (in a block behind W0's), of what lay in W0 nothing has turned. -/
structure Bu (W0 w : World) (v : Value) (l : List Int) : Prop where
  own : w.ownsRow W0.heap.size 5 1 v l.length (nums .u8 l)
  bel : Below W0.heap.size W0 w
/-- A string's bytes. -/
def sbs (s : ByteArray) : List Int := s.data.toList.map fun b => (b.toNat : Int)
theorem sbs_len (s : ByteArray) : (sbs s).length = s.size := by rw [sbs, List.length_map, Array.length_toList]; rfl
theorem sbs_cells (s : ByteArray) : Go.Lib.strCells s = nums .u8 (sbs s) := by simp [Go.Lib.strCells, sbs, nums]
theorem Bu.alloc {W0 w : World} {v : Value} {l : List Int} (h : Bu W0 w v l) (o : Obj) : Bu W0 (w.alloc o) v l := ⟨World.ownsRow.alloc h.own o, below_alloc h.bel _⟩
theorem Bu.drewN {W0 w : World} {v : Value} {l : List Int} (h : Bu W0 w v l) (n : Nat) : Bu W0 (w.drewN n) v l := ⟨h.own, ⟨h.bel.os, h.bel.tape, h.bel.output, h.bel.size, h.bel.block⟩⟩
theorem Bu.slice {W0 w : World} {v : Value} {l : List Int} (h : Bu W0 w v l) : ∃ A c, v = .slice A l.length c ∧ l.length ≤ c := by
  rcases h.own.2 with ⟨rfl, h3⟩ | ⟨g, cap, cur, rfl, hb, h3⟩
  · have : l = [] := by simpa [nums] using h3
    subst this
    exact ⟨none, 0, rfl, Nat.le_refl _⟩
  · exact ⟨_, cap, rfl, h3.2.1⟩
theorem Bu.below {W0 w w' : World} {v : Value} {l : List Int} (h : Bu W0 w v l) (hb : Below w.heap.size w w') : Bu W0 w' v l :=
  ⟨World.ownsRow.kept (row := none) h.own ⟨hb.os, hb.tape, hb.output, hb.size, fun k hk _ => hb.block k hk⟩ (by
    cases hv : v.ownBlock with
    | none => exact .inl rfl
    | some k => exact .inr (by simp)), below_step h.bel hb⟩
theorem grown_below {W0 w w' : World} {v : Value} {l : List Int} (h : Bu W0 w v l) (hg : w.grownBy w' v.ownBlock) : Below W0.heap.size W0 w' :=
  h.bel.trans ⟨hg.os, hg.tape, hg.output, hg.size, fun k hk => hg.block k (Nat.lt_of_lt_of_le hk h.bel.size) (fun e => by have := World.ownsRow.lt h.own k e.symm; omega)⟩
theorem bu_made (W0 w : World) (hB : Below W0.heap.size W0 w) (cap : Nat) (hm : cap ≤ 9223372036854775807) : Bu W0 (w.alloc (.cells (Array.replicate cap (.int .u8 0)) 5)) (.slice (some ⟨w.heap.size, 0, none⟩) 0 cap) [] :=
  ⟨World.ownsRow_made w _ cap hB.size (by unfold maxLen; omega) (by simp), below_alloc hB _⟩
/-- Blocks of another type are as they were. -/
def Far (w w' : World) : Prop := ∀ k cs t fz, hp w k = some (.cells cs t fz) → t ≠ 5 → hp w' k = some (.cells cs t fz)
theorem Far.refl (w : World) : Far w w := fun _ _ _ _ h _ => h
theorem Far.trans {a b c : World} (h : Far a b) (k : Far b c) : Far a c := fun i cs t fz h1 h2 => k i cs t fz (h i cs t fz h1 h2) h2
theorem Far.alloc (w : World) (o : Obj) : Far w (w.alloc o) := fun i cs t fz h1 h2 => by rw [hp_alloc, if_neg (by have := hp_lt h1; omega)]; exact h1
theorem grown_far {W0 w w' : World} {v : Value} {l : List Int} (h : Bu W0 w v l) (hg : w.grownBy w' v.ownBlock) : Far w w' := by
  intro k cs t fz h1 h2
  refine (hg.block k (hp_lt h1) ?_).trans h1
  intro e
  rcases h.own.2 with ⟨rfl, _⟩ | ⟨g, cap, cur, rfl, hb, h3, _⟩
  · cases e
  · have e1 : k = g := by simpa [Value.ownBlock] using e
    subst e1
    have h4 : w.heap[k]? = some (.cells cs t fz) := h1
    rw [h3] at h4
    injection h4 with h4
    injection h4 with _ h5
    exact h2 h5.symm
section
theorem bu_str' {w : World} {ops : Array Oper} {rest : List Oper} {o : Oper} {a : Act} {Q : Exit → Act → World → Prop} (hgd : o.guard = none) (sl x : Operand) (u : TypeId)
    (ho : o.op = .call { callee := .builtin .append, args := #[sl, x], argTypes := #[43, u] }) (hu : Tryz.prog.underlying u = some .string)
    (W0 : World) (v : Value) (l : List Int) (hs : a.eval sl = v) (h : Bu W0 w v l) (s : ByteArray) (hx : a.eval x = .string s) (hl : l.length + s.size ≤ 100000000000)
    (k : ∀ v' w', Bu W0 w' v' (l ++ sbs s) → Far w w' → wpList Tryz.prog ops Q rest (a.put o.dst v') w') : wpList Tryz.prog ops Q (o :: rest) a w := by
  obtain ⟨i, hi, hz, hsz, hby⟩ := info_parts infoU8
  refine Go.Lib.wpList_append_own_string w hgd sl x 43 u ho W0.heap.size 5 i Tryz.underlying43 hu hi hz hsz hby v l.length _ hs h.own s hx (by unfold maxLen; omega) (by omega) h.bel.size ?_
  intro v' w' h1 h2 _
  refine k v' w' ⟨?_, grown_below h h2⟩ (grown_far h h2)
  rw [List.length_append, nums_append, sbs_len, ← sbs_cells]
  exact h1
theorem bu_str {w : World} {ops : Array Oper} {rest : List Oper} {o : Oper} {a : Act} {Q : Exit → Act → World → Prop} (hgd : o.guard = none) (sl x : Operand) (u : TypeId)
    (ho : o.op = .call { callee := .builtin .append, args := #[sl, x], argTypes := #[43, u] }) (hu : Tryz.prog.underlying u = some .string)
    (W0 : World) (v : Value) (l : List Int) (hs : a.eval sl = v) (h : Bu W0 w v l) (s : ByteArray) (hx : a.eval x = .string s) (hl : l.length + s.size ≤ 100000000000)
    (k : ∀ v' w', Bu W0 w' v' (l ++ sbs s) → wpList Tryz.prog ops Q rest (a.put o.dst v') w') : wpList Tryz.prog ops Q (o :: rest) a w :=
  bu_str' hgd sl x u ho hu W0 v l hs h s hx hl (fun v' w' h1 _ => k v' w' h1)
theorem bu_row' {w : World} {ops : Array Oper} {rest : List Oper} {o : Oper} {a : Act} {Q : Exit → Act → World → Prop} (hgd : o.guard = none) (sl x : Operand)
    (ho : o.op = .call { callee := .builtin .append, args := #[sl, x], argTypes := #[43, 43] })
    (W0 : World) (v : Value) (l m : List Int) (ad : Addr) (c : Nat) (hs : a.eval sl = v) (h : Bu W0 w v l) (hx : a.eval x = .slice (some ad) m.length c) (hc : ∀ j, j < m.length → w.cell? (ad.add j) = some (.int .u8 (m.getD j 0))) (hl : l.length + m.length ≤ 100000000000)
    (k : ∀ v' w', Bu W0 w' v' (l ++ m) → Far w w' → wpList Tryz.prog ops Q rest (a.put o.dst v') w') : wpList Tryz.prog ops Q (o :: rest) a w := by
  obtain ⟨i, hi, hz, hsz, hby⟩ := info_parts infoU8
  refine wpList_append_own w hgd sl x 43 ho W0.heap.size 5 i (.int .u8 0) 1 1 Tryz.underlying43 hi hz hsz hby rfl (by decide) v l.length _ hs h.own ad m.length c (nums .u8 m) hx (by simp [nums]) ?_ ?_ (by unfold maxLen; omega) (by omega) h.bel.size ?_
  · intro j u hu
    rw [nums, List.getElem?_map] at hu
    cases e : m[j]? with
    | none => rw [e] at hu; cases hu
    | some q =>
      rw [e] at hu
      have hj := (List.getElem?_eq_some_iff.1 e).1
      have h2 := hc j hj
      rw [List.getD_eq_getElem?_getD, e] at h2
      rw [h2]
      exact hu
  · intro u hu
    simp [nums] at hu
    obtain ⟨q, _, rfl⟩ := hu
    rfl
  · intro v' w' h1 h2 _
    refine k v' w' ⟨?_, grown_below h h2⟩ (grown_far h h2)
    rw [List.length_append, nums_append]
    exact h1
theorem bu_row {w : World} {ops : Array Oper} {rest : List Oper} {o : Oper} {a : Act} {Q : Exit → Act → World → Prop} (hgd : o.guard = none) (sl x : Operand)
    (ho : o.op = .call { callee := .builtin .append, args := #[sl, x], argTypes := #[43, 43] })
    (W0 : World) (v : Value) (l m : List Int) (ad : Addr) (c : Nat) (hs : a.eval sl = v) (h : Bu W0 w v l) (hx : a.eval x = .slice (some ad) m.length c) (hc : ∀ j, j < m.length → w.cell? (ad.add j) = some (.int .u8 (m.getD j 0))) (hl : l.length + m.length ≤ 100000000000)
    (k : ∀ v' w', Bu W0 w' v' (l ++ m) → wpList Tryz.prog ops Q rest (a.put o.dst v') w') : wpList Tryz.prog ops Q (o :: rest) a w :=
  bu_row' hgd sl x ho W0 v l m ad c hs h hx hc hl (fun v' w' h1 _ => k v' w' h1)
/-- One byte, laid in a block of its own. -/
theorem bu_byte' {w0 : World} {ops : Array Oper} {rest : List Oper} {o : Oper} {a : Act} {Q : Exit → Act → World → Prop} (hgd : o.guard = none) (sl x : Operand)
    (ho : o.op = .call { callee := .builtin .append, args := #[sl, x], argTypes := #[43, 43] })
    (W0 : World) (v : Value) (l : List Int) (b : Int) (hs : a.eval sl = v) (h : Bu W0 w0 v l) (hx : a.eval x = .slice (some ⟨w0.heap.size, 0, none⟩) 1 1) (hl : l.length ≤ 10000000000)
    (k : ∀ v' w', Bu W0 w' v' (l ++ [b]) → Far w0 w' → wpList Tryz.prog ops Q rest (a.put o.dst v') w') : wpList Tryz.prog ops Q (o :: rest) a (w0.alloc (.cells #[.int .u8 b] 5)) := by
  refine bu_row' hgd sl x ho W0 v l [b] ⟨w0.heap.size, 0, none⟩ 1 hs (h.alloc _) hx ?_ (by simp; omega) (fun v' w' h1 h2 => k v' w' h1 ((Far.alloc w0 _).trans h2))
  intro j hj
  match j, hj with
  | 0, _ => simp [Addr.add]
theorem bu_byte {w0 : World} {ops : Array Oper} {rest : List Oper} {o : Oper} {a : Act} {Q : Exit → Act → World → Prop} (hgd : o.guard = none) (sl x : Operand)
    (ho : o.op = .call { callee := .builtin .append, args := #[sl, x], argTypes := #[43, 43] })
    (W0 : World) (v : Value) (l : List Int) (b : Int) (hs : a.eval sl = v) (h : Bu W0 w0 v l) (hx : a.eval x = .slice (some ⟨w0.heap.size, 0, none⟩) 1 1) (hl : l.length ≤ 10000000000)
    (k : ∀ v' w', Bu W0 w' v' (l ++ [b]) → wpList Tryz.prog ops Q rest (a.put o.dst v') w') : wpList Tryz.prog ops Q (o :: rest) a (w0.alloc (.cells #[.int .u8 b] 5)) :=
  bu_byte' hgd sl x ho W0 v l b hs h hx hl (fun v' w' h1 _ => k v' w' h1)
/-- Bytes as a text. -/
theorem bu_string {W0 w : World} {v : Value} {l : List Int} (h : Bu W0 w v l) (dst : TypeId) (hd : Tryz.prog.underlying dst = some .string) : (convert 43 dst v).run Tryz.prog w = .ok (.string (strOfNums l)) w :=
  own_string Tryz.underlying43 Tryz.underlying5 hd h.own
end
end Go.Proofs.YtfnknldbjckgoaaGreatDoor.Sp
