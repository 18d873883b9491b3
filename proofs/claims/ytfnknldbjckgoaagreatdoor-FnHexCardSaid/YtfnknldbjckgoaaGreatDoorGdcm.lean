/-
  MERGED BY PROGRAM (regroup.py): BufS, DecM, DecR.
-/
import Derived.Test.YtfnknldbjckgoaaGreatDoorBuf
import Derived.Test.YtfnknldbjckgoaaGreatDoorGdec
import Derived.Deep.DeepCutAuto
import Derived.Deep.CutBlock
import Derived.Deep.LoopGhost
/-! ## BufS -/
section
namespace Go.Proofs.YtfnknldbjckgoaaGreatDoor.Sp
open Go.RowKit Go.Proofs.YtfnknldbjckgoaaGreatDoorW.PrintWords Go.Proofs.YtfnknldbjckgoaaGreatDoorW.PrintLast Go.Proofs.YtfnknldbjckgoaaGreatDoorW.PrintMore Go.Proofs.YtfnknldbjckgoaaGreatDoor.Dig
set_option linter.unusedVariables false
set_option linter.unusedSimpArgs false
section
variable {P : Program} (w : World)
/-- Where a row lies behind an append. -/
theorem append_where (base : Nat) (t ty e : TypeId) (i : TypeInfo) (z : Value) (size bytes : Nat) (ht : P.underlying t = some (.slice e)) (hi : P.info? e = some i) (hz : i.zero = some z)
    (hsize : i.size = size) (hby : i.bytes = bytes) (hzs : z.cells.size = size) (hsz : 0 < size)
    (v : Value) (n : Nat) (xs : List Value) (hown : w.ownsRow base e size v n xs)
    (a : Addr) (m c : Nat) (news : List Value) (hl : news.length = m * size) (hnews : ∀ j u, news[j]? = some u → w.cell? (a.add j) = some u) (h1 : ∀ u ∈ news, u.oneCell' = true)
    (h63 : n + m ≤ maxLen) (hbytes : (n + m) * bytes ≤ 140737488355328) :
    ∃ v' w', (Builtin.append_ #[t, t] ty #[v, .slice (some a) m c]).run P w = .ok v' w' ∧ (v'.ownBlock = v.ownBlock ∨ v'.ownBlock = some w.heap.size) := by
  subst hsize
  subst hby
  have hsmall : n + m ≤ 9223372036854775807 := by simp only [maxLen] at h63; omega
  rcases hown.2 with ⟨rfl, rfl⟩ | ⟨g, cap, cur, rfl, hbg, hg, hnc, hcm, hcs, htake⟩
  · by_cases hm : m = 0
    · subst hm
      have hn : news = [] := List.eq_nil_of_length_eq_zero (by simpa using hl)
      subst hn
      refine ⟨.slice none 0 0, w, ?_, .inl rfl⟩
      simp [Builtin.append_, run_underlying ht, sizeOf, typeInfo, hi, Builtin.lenOf, Builtin.firstCells, loadCells, loadCellsFrom]
    · have hr := run_append_nil (P := P) w t ty e i z ht hi hz a m c news hl hnews (by omega) (by omega) (by have hb := hbytes; simp only [Nat.zero_add] at hb; omega)
      exact ⟨_, _, hr, .inr rfl⟩
  · by_cases hroom : n + m ≤ cap
    · have hfit : n * i.size + news.length ≤ cur.size := by rw [hl, hcs, ← Nat.add_mul]; exact Nat.mul_le_mul_right _ hroom
      exact ⟨_, _, run_append_room (P := P) w t ty e i ht hi g n cap cur hg a m c news hl hnews h1 hroom hfit, .inl rfl⟩
    · have holds : ∀ j u, xs[j]? = some u → w.cell? ((⟨g, 0, none⟩ : Addr).add j) = some u := hown.cells (g := g) rfl
      exact ⟨_, _, run_append_grow (P := P) w t ty e i z ht hi hz ⟨g, 0, none⟩ n cap xs hown.1 holds a m c news hl hnews (by omega) (by omega) (growslice_fits (by omega) hbytes), .inr rfl⟩
end
/-- Bytes of the call's own; besides, the blocks of S (none of them the bytes' own) hold what S says. -/
structure Bs (S : List (Nat × Obj)) (W0 w : World) (v : Value) (l : List Int) : Prop where
  bu : Bu W0 w v l
  st : ∀ p ∈ S, hp w p.1 = some p.2 ∧ v.ownBlock ≠ some p.1
theorem Bs.blk {S : List (Nat × Obj)} {W0 w : World} {v : Value} {l : List Int} (h : Bs S W0 w v l) {k : Nat} {o : Obj} (hk : (k, o) ∈ S) : hp w k = some o := (h.st _ hk).1
theorem Bs.below {S : List (Nat × Obj)} {W0 w w' : World} {v : Value} {l : List Int} (h : Bs S W0 w v l) (hb : Below w.heap.size w w') : Bs S W0 w' v l :=
  ⟨h.bu.below hb, fun p hp => ⟨hp_below (h.st p hp).1 hb, (h.st p hp).2⟩⟩
theorem Bs.alloc {S : List (Nat × Obj)} {W0 w : World} {v : Value} {l : List Int} (h : Bs S W0 w v l) (o : Obj) : Bs S W0 (w.alloc o) v l := h.below (below_alloc (Below.refl _ _) _)
/-- A row behind an append, and what stays. -/
theorem bs_grown {S : List (Nat × Obj)} {W0 w w' : World} {v v' : Value} {l l' : List Int} (h : Bs S W0 w v l) (h1 : Bu W0 w' v' l') (hg : w.grownBy w' v.ownBlock) (hw : v'.ownBlock = v.ownBlock ∨ v'.ownBlock = some w.heap.size) : Bs S W0 w' v' l' := by
  refine ⟨h1, fun p hp => ?_⟩
  obtain ⟨h2, h3⟩ := h.st p hp
  refine ⟨(hg.block p.1 (hp_lt h2) (fun e => h3 e.symm)).trans h2, ?_⟩
  rcases hw with hw | hw
  · rw [hw]; exact h3
  · rw [hw]
    intro e
    injection e with e
    have := hp_lt h2
    omega
section
theorem bs_row {w : World} {ops : Array Oper} {rest : List Oper} {o : Oper} {a : Act} {Q : Exit → Act → World → Prop} (hgd : o.guard = none) (sl x : Operand)
    (ho : o.op = .call { callee := .builtin .append, args := #[sl, x], argTypes := #[43, 43] })
    (S : List (Nat × Obj)) (W0 : World) (v : Value) (l m : List Int) (ad : Addr) (c : Nat) (hs : a.eval sl = v) (h : Bs S W0 w v l) (hx : a.eval x = .slice (some ad) m.length c) (hc : ∀ j, j < m.length → w.cell? (ad.add j) = some (.int .u8 (m.getD j 0))) (hl : l.length + m.length ≤ 100000000000)
    (k : ∀ v' w', Bs S W0 w' v' (l ++ m) → wpList Tryz.prog ops Q rest (a.put o.dst v') w') : wpList Tryz.prog ops Q (o :: rest) a w := by
  obtain ⟨i, hi, hz, hsz, hby⟩ := info_parts infoU8
  have hnews : ∀ j u, (nums .u8 m)[j]? = some u → w.cell? (ad.add j) = some u := by
    intro j u hu
    rw [nums, List.getElem?_map] at hu
    cases e : m[j]? with
    | none => rw [e] at hu; cases hu
    | some q =>
      rw [e] at hu
      have hj := (List.getElem?_eq_some_iff.1 e).1
      have h2 := hc j hj
      rw [List.getD_eq_getElem?_getD, e] at h2
      rw [h2]
      exact hu
  have hone : ∀ u ∈ nums .u8 m, u.oneCell' = true := by
    intro u hu
    simp [nums] at hu
    obtain ⟨q, _, rfl⟩ := hu
    rfl
  have hmx : l.length + m.length ≤ maxLen := by unfold maxLen; omega
  have hlen : (nums .u8 m).length = m.length * 1 := by simp [nums]
  obtain ⟨v', w', hr, h2, h3, _⟩ := run_append_own (P := Tryz.prog) w W0.heap.size 43 o.type 5 i (.int .u8 0) 1 1 Tryz.underlying43 hi hz hsz hby rfl (by decide) v l.length _ h.bu.own ad m.length c (nums .u8 m) hlen hnews hone hmx (by omega) h.bu.bel.size
  obtain ⟨v2, w2, hr2, hwh⟩ := append_where (P := Tryz.prog) w W0.heap.size 43 o.type 5 i (.int .u8 0) 1 1 Tryz.underlying43 hi hz hsz hby rfl (by decide) v l.length _ h.bu.own ad m.length c (nums .u8 m) hlen hnews hone hmx (by omega)
  rw [hr] at hr2
  injection hr2 with e1 e2
  subst e1 e2
  refine wpList_plain hgd fun K hK => ?_
  unfold Oper.wp execOp
  simp only [ho, resolve, invoke, builtin, Sem.run_bind, Sem.run_pure, Result.andThen_ok, List.map_toArray, List.map_cons, List.map_nil, hs, hx, hr]
  refine hK _ _ (k v' w' (bs_grown h ⟨?_, grown_below h.bu h3⟩ h3 hwh))
  rw [List.length_append, nums_append]
  exact h2
/-- One byte, laid in a block of its own. -/
theorem bs_byte {w0 : World} {ops : Array Oper} {rest : List Oper} {o : Oper} {a : Act} {Q : Exit → Act → World → Prop} (hgd : o.guard = none) (sl x : Operand)
    (ho : o.op = .call { callee := .builtin .append, args := #[sl, x], argTypes := #[43, 43] })
    (S : List (Nat × Obj)) (W0 : World) (v : Value) (l : List Int) (b : Int) (hs : a.eval sl = v) (h : Bs S W0 w0 v l) (hx : a.eval x = .slice (some ⟨w0.heap.size, 0, none⟩) 1 1) (hl : l.length ≤ 10000000000)
    (k : ∀ v' w', Bs S W0 w' v' (l ++ [b]) → wpList Tryz.prog ops Q rest (a.put o.dst v') w') : wpList Tryz.prog ops Q (o :: rest) a (w0.alloc (.cells #[.int .u8 b] 5)) := by
  refine bs_row hgd sl x ho S W0 v l [b] ⟨w0.heap.size, 0, none⟩ 1 hs (h.alloc _) hx ?_ (by simp; omega) k
  intro j hj
  match j, hj with
  | 0, _ => simp [Addr.add]
end
end Go.Proofs.YtfnknldbjckgoaaGreatDoor.Sp
end

/-! ## DecM -/
section
namespace Go.Proofs.YtfnknldbjckgoaaGreatDoor.Sp
open Go.RowKit Go.Proofs.YtfnknldbjckgoaaGreatDoorW.PrintWords Go.Proofs.YtfnknldbjckgoaaGreatDoorW.PrintLast Go.Proofs.YtfnknldbjckgoaaGreatDoorW.PrintMore Go.Proofs.YtfnknldbjckgoaaGreatDoor.Dig
set_option linter.unusedVariables false
set_option linter.unusedSimpArgs false
/-- A decimal in block b: its figures l at the head of block g (R behind them), its exponent e. -/
structure DX (w : World) (b g : Nat) (l : List Int) (R : List Value) (e : Int) : Prop where
  str : hp w b = some (.cells #[.slice (some ⟨g, 0, none⟩) l.length (l.length + R.length), .int .i64 e] 87 (0, 0))
  row : hp w g = some (.cells (nums .u8 l ++ R).toArray 5 (0, 0))
  len : l.length ≤ 100000000 ∧ l.length + R.length ≤ 9223372036854775807
theorem DX.ne {w : World} {b g : Nat} {l : List Int} {R : List Value} {e : Int} (h : DX w b g l R e) : b ≠ g := by
  rintro rfl
  have h1 := h.str.symm.trans h.row
  injection h1 with h1
  injection h1 with _ h2
  exact absurd h2 (by decide)
theorem row_cell {w : World} {g : Nat} {l : List Int} {R : List Value} {t : TypeId} (h : hp w g = some (.cells (nums .u8 l ++ R).toArray t (0, 0))) (j : Nat) (hj : j < l.length) : w.cell? ⟨g, j, none⟩ = some (.int .u8 (l.getD j 0)) := by
  rw [blk_cell h j]
  simp [nums, List.getElem?_append_left (show j < (l.map (Value.int .u8)).length by simpa using hj), List.getElem?_eq_getElem hj]
theorem DX.cell {w : World} {b g : Nat} {l : List Int} {R : List Value} {e : Int} (h : DX w b g l R e) (j : Nat) (hj : j < l.length) : w.cell? ⟨g, j, none⟩ = some (.int .u8 (l.getD j 0)) := row_cell h.row j hj
theorem DX.kept {w w' : World} {b g : Nat} {l : List Int} {R : List Value} {e : Int} {S : Nat → Prop} (h : DX w b g l R e) (hk : Kept S w w') (hb : ¬ S b) (hg : ¬ S g) : DX w' b g l R e := ⟨hp_kept h.str hk hb, hp_kept h.row hk hg, h.len⟩
theorem DX.below {w w' : World} {b g : Nat} {l : List Int} {R : List Value} {e : Int} (h : DX w b g l R e) (hb : Below w.heap.size w w') : DX w' b g l R e := ⟨hp_below h.str hb, hp_below h.row hb, h.len⟩
theorem nums_split (l : List Int) (n : Nat) (R : List Value) : nums .u8 l ++ R = nums .u8 (l.take n) ++ (nums .u8 (l.drop n) ++ R) := by
  rw [← List.append_assoc, ← nums_append, List.take_append_drop]
/-- Cut at n. -/
theorem DX.cut {w w' : World} {b g : Nat} {l : List Int} {R : List Value} {e e' : Int} (h : DX w b g l R e) (n : Nat) (hn : n ≤ l.length) (hs : hp w' b = some (.cells #[.slice (some ⟨g, 0, none⟩) n (l.length + R.length), .int .i64 e'] 87 (0, 0))) (hr : hp w' g = hp w g) : ∃ R', DX w' b g (l.take n) R' e' := by
  refine ⟨nums .u8 (l.drop n) ++ R, ?_, ?_, ?_⟩
  · have e1 : (l.take n).length = n := by rw [List.length_take]; omega
    have e2 : (l.take n).length + (nums .u8 (l.drop n) ++ R).length = l.length + R.length := by rw [e1, List.length_append]; simp [nums]; omega
    rw [e2, e1]
    exact hs
  · rw [hr, h.row, ← nums_split]
  · have := h.len
    simp [nums]
    omega
theorem DX.set {w : World} {b g : Nat} {l : List Int} {R : List Value} {e : Int} (h : DX w b g l R e) (i : Nat) (hi : i < l.length) (x : Int) : DX (w.setCell ⟨g, i, none⟩ (.int .u8 x)) b g (l.set i x) R e := by
  refine ⟨?_, ?_, ?_⟩
  · rw [hp_other _ _ _ _ (fun e => h.ne e.symm), List.length_set]
    exact h.str
  · rw [hp_here _ _ _ _ _ rfl, h.row]
    simp only [Option.map_some, setObj_cells]
    congr 2
    apply Array.toList_inj.1
    simp [nums, List.set_append_left, hi, List.map_set]
  · rw [List.length_set]; exact h.len
end Go.Proofs.YtfnknldbjckgoaaGreatDoor.Sp
end

/-! ## DecR -/
section
namespace Go.Proofs.YtfnknldbjckgoaaGreatDoor.Sp
open Go.RowKit Go.Proofs.YtfnknldbjckgoaaGreatDoorW.PrintWords Go.Proofs.YtfnknldbjckgoaaGreatDoorW.PrintLast Go.Proofs.YtfnknldbjckgoaaGreatDoorW.PrintMore Go.Proofs.YtfnknldbjckgoaaGreatDoor.Dig
set_option linter.unusedVariables false
set_option linter.unusedSimpArgs false
/-- What is still to be written comes to its end. -/
def Fin2 (s f n : Nat) : Prop := ∃ j, j + f = s + 1 ∧ 2 ^ j ∣ n ∧ (f = 0 → n = 0)
theorem Fin2.step {s f n : Nat} (h : Fin2 s (f + 1) n) : Fin2 s f (n % 2 ^ s * 10) := by
  obtain ⟨j, h1, h2, h3⟩ := h
  refine ⟨j + 1, by omega, two_dvd_step h2 (by omega), fun h4 => ?_⟩
  have hj : j = s := by omega
  subst hj
  rw [Nat.mod_eq_zero_of_dvd h2, Nat.zero_mul]
theorem Fin2.end {s f n : Nat} (h : Fin2 s f n) (hn : 0 < n) : ∃ k, f = k + 1 := by
  obtain ⟨j, h1, h2, h3⟩ := h
  cases f with
  | zero => have := h3 rfl; omega
  | succ k => exact ⟨k, rfl⟩
end Go.Proofs.YtfnknldbjckgoaaGreatDoor.Sp
end
