/-
  MERGED BY PROGRAM (regroup.py): BufS, DecM, DecR.
-/
import Derived.Test.YtfnknldbjckgoaaGreatDoorZBuf
import Derived.Test.YtfnknldbjckgoaaGreatDoorZGdec
import Derived.Deep.DeepCutAuto
import Derived.Deep.CutBlock
import Derived.Deep.LoopGhost
/-! ## BufS -/
section
namespace Go.Proofs.YtfnknldbjckgoaaGreatDoor.Sp
open Go.RowKit Go.Proofs.YtfnknldbjckgoaaGreatDoorW.PrintWords Go.Proofs.YtfnknldbjckgoaaGreatDoorW.PrintLast Go.Proofs.YtfnknldbjckgoaaGreatDoorW.PrintMore Go.Proofs.YtfnknldbjckgoaaGreatDoor.Dig
set_option linter.unusedVariables false
set_option linter.unusedSimpArgs false
section
variable {P : Program} (w : World)
/-- Where a row lies behind an append. -/
theorem append_where (base : Nat) (t ty e : TypeId) (i : TypeInfo) (z : Value) (size bytes : Nat) (ht : P.underlying t = some (.slice e)) (hi : P.info? e = some i) (hz : i.zero = some z)
    (hsize : i.size = size) (hby : i.bytes = bytes) (hzs : z.cells.size = size) (hsz : 0 < size)
    (v : Value) (n : Nat) (xs : List Value) (hown : w.ownsRow base e size v n xs)
    (a : Addr) (m c : Nat) (news : List Value) (hl : news.length = m * size) (hnews : ∀ j u, news[j]? = some u → w.cell? (a.add j) = some u) (h1 : ∀ u ∈ news, u.oneCell' = true)
    (h63 : n + m ≤ maxLen) (hbytes : (n + m) * bytes ≤ 140737488355328) :
    ∃ v' w', (Builtin.append_ #[t, t] ty #[v, .slice (some a) m c]).run P w = .ok v' w' ∧ (v'.ownBlock = v.ownBlock ∨ v'.ownBlock = some w.heap.size) := by
  subst hsize
  subst hby
  have hsmall : n + m ≤ 9223372036854775807 := by simp only [maxLen] at h63; omega
  rcases hown.2 with ⟨rfl, rfl⟩ | ⟨g, cap, cur, rfl, hbg, hg, hnc, hcm, hcs, htake⟩
  · by_cases hm : m = 0
    · subst hm
      have hn : news = [] := List.eq_nil_of_length_eq_zero (by simpa using hl)
      subst hn
      refine ⟨.slice none 0 0, w, ?_, .inl rfl⟩
      simp [Builtin.append_, run_underlying ht, sizeOf, typeInfo, hi, Builtin.lenOf, Builtin.firstCells, loadCells, loadCellsFrom]
    · have hr := run_append_nil (P := P) w t ty e i z ht hi hz a m c news hl hnews (by omega) (by omega) (by have hb := hbytes; simp only [Nat.zero_add] at hb; omega)
      exact ⟨_, _, hr, .inr rfl⟩
  · by_cases hroom : n + m ≤ cap
    · have hfit : n * i.size + news.length ≤ cur.size := by rw [hl, hcs, ← Nat.add_mul]; exact Nat.mul_le_mul_right _ hroom
      exact ⟨_, _, run_append_room (P := P) w t ty e i ht hi g n cap cur hg a m c news hl hnews h1 hroom hfit, .inl rfl⟩
    · have holds : ∀ j u, xs[j]? = some u → w.cell? ((⟨g, 0, none⟩ : Addr).add j) = some u := hown.cells (g := g) rfl
      exact ⟨_, _, run_append_grow (P := P) w t ty e i z ht hi hz ⟨g, 0, none⟩ n cap xs hown.1 holds a m c news hl hnews (by omega) (by omega) (growslice_fits (by omega) hbytes), .inr rfl⟩
end
/-- Bytes of the call's own; besides, the blocks of S (none of them the bytes' own) hold what S says. -/
structure Bs (S : List (Nat × Obj)) (W0 w : World) (v : Value) (l : List Int) : Prop where
  bu : Bu W0 w v l
  st : ∀ p ∈ S, hp w p.1 = some p.2 ∧ v.ownBlock ≠ some p.1
theorem Bs.blk {S : List (Nat × Obj)} {W0 w : World} {v : Value} {l : List Int} (h : Bs S W0 w v l) {k : Nat} {o : Obj} (hk : (k, o) ∈ S) : hp w k = some o := (h.st _ hk).1
theorem Bs.below {S : List (Nat × Obj)} {W0 w w' : World} {v : Value} {l : List Int} (h : Bs S W0 w v l) (hb : Below w.heap.size w w') : Bs S W0 w' v l :=
  ⟨h.bu.below hb, fun p hp => ⟨hp_below (h.st p hp).1 hb, (h.st p hp).2⟩⟩
theorem Bs.alloc {S : List (Nat × Obj)} {W0 w : World} {v : Value} {l : List Int} (h : Bs S W0 w v l) (o : Obj) : Bs S W0 (w.alloc o) v l := h.below (below_alloc (Below.refl _ _) _)
/-- A row behind an append, and what stays. -/
theorem bs_grown {S : List (Nat × Obj)} {W0 w w' : World} {v v' : Value} {l l' : List Int} (h : Bs S W0 w v l) (h1 : Bu W0 w' v' l') (hg : w.grownBy w' v.ownBlock) (hw : v'.ownBlock = v.ownBlock ∨ v'.ownBlock = some w.heap.size) : Bs S W0 w' v' l' := by
  refine ⟨h1, fun p hp => ?_⟩
  obtain ⟨h2, h3⟩ := h.st p hp
  refine ⟨(hg.block p.1 (hp_lt h2) (fun e => h3 e.symm)).trans h2, ?_⟩
  rcases hw with hw | hw
  · rw [hw]; exact h3
  · rw [hw]
    intro e
    injection e with e
    have := hp_lt h2
    omega
section
theorem bs_row {w : World} {ops : Array Oper} {rest : List Oper} {o : Oper} {a : Act} {Q : Exit → Act → World → Prop} (hgd : o.guard = none) (sl x : Operand)
    (ho : o.op = .call { callee := .builtin .append, args := #[sl, x], argTypes := #[43, 43] })
    (S : List (Nat × Obj)) (W0 : World) (v : Value) (l m : List Int) (ad : Addr) (c : Nat) (hs : a.eval sl = v) (h : Bs S W0 w v l) (hx : a.eval x = .slice (some ad) m.length c) (hc : ∀ j, j < m.length → w.cell? (ad.add j) = some (.int .u8 (m.getD j 0))) (hl : l.length + m.length ≤ 100000000000)
    (k : ∀ v' w', Bs S W0 w' v' (l ++ m) → wpList Tryz.prog ops Q rest (a.put o.dst v') w') : wpList Tryz.prog ops Q (o :: rest) a w := by
  obtain ⟨i, hi, hz, hsz, hby⟩ := info_parts infoU8
  have hnews : ∀ j u, (nums .u8 m)[j]? = some u → w.cell? (ad.add j) = some u := by
    intro j u hu
    rw [nums, List.getElem?_map] at hu
    cases e : m[j]? with
    | none => rw [e] at hu; cases hu
    | some q =>
      rw [e] at hu
      have hj := (List.getElem?_eq_some_iff.1 e).1
      have h2 := hc j hj
      rw [List.getD_eq_getElem?_getD, e] at h2
      rw [h2]
      exact hu
  have hone : ∀ u ∈ nums .u8 m, u.oneCell' = true := by
    intro u hu
    simp [nums] at hu
    obtain ⟨q, _, rfl⟩ := hu
    rfl
  have hmx : l.length + m.length ≤ maxLen := by unfold maxLen; omega
  have hlen : (nums .u8 m).length = m.length * 1 := by simp [nums]
  obtain ⟨v', w', hr, h2, h3, _⟩ := run_append_own (P := Tryz.prog) w W0.heap.size 43 o.type 5 i (.int .u8 0) 1 1 Tryz.underlying43 hi hz hsz hby rfl (by decide) v l.length _ h.bu.own ad m.length c (nums .u8 m) hlen hnews hone hmx (by omega) h.bu.bel.size
  obtain ⟨v2, w2, hr2, hwh⟩ := append_where (P := Tryz.prog) w W0.heap.size 43 o.type 5 i (.int .u8 0) 1 1 Tryz.underlying43 hi hz hsz hby rfl (by decide) v l.length _ h.bu.own ad m.length c (nums .u8 m) hlen hnews hone hmx (by omega)
  rw [hr] at hr2
  injection hr2 with e1 e2
  subst e1 e2
  refine wpList_plain hgd fun K hK => ?_
  unfold Oper.wp execOp
  simp only [ho, resolve, invoke, builtin, Sem.run_bind, Sem.run_pure, Result.andThen_ok, List.map_toArray, List.map_cons, List.map_nil, hs, hx, hr]
  refine hK _ _ (k v' w' (bs_grown h ⟨?_, grown_below h.bu h3⟩ h3 hwh))
  rw [List.length_append, nums_append]
  exact h2
/-- One byte, laid in a block of its own. -/
theorem bs_byte {w0 : World} {ops : Array Oper} {rest : List Oper} {o : Oper} {a : Act} {Q : Exit → Act → World → Prop} (hgd : o.guard = none) (sl x : Operand)
    (ho : o.op = .call { callee := .builtin .append, args := #[sl, x], argTypes := #[43, 43] })
    (S : List (Nat × Obj)) (W0 : World) (v : Value) (l : List Int) (b : Int) (hs : a.eval sl = v) (h : Bs S W0 w0 v l) (hx : a.eval x = .slice (some ⟨w0.heap.size, 0, none⟩) 1 1) (hl : l.length ≤ 10000000000)
    (k : ∀ v' w', Bs S W0 w' v' (l ++ [b]) → wpList Tryz.prog ops Q rest (a.put o.dst v') w') : wpList Tryz.prog ops Q (o :: rest) a (w0.alloc (.cells #[.int .u8 b] 5)) := by
  refine bs_row hgd sl x ho S W0 v l [b] ⟨w0.heap.size, 0, none⟩ 1 hs (h.alloc _) hx ?_ (by simp; omega) k
  intro j hj
  match j, hj with
  | 0, _ => simp [Addr.add]
end
end Go.Proofs.YtfnknldbjckgoaaGreatDoor.Sp
end

/-! ## DecM -/
section
namespace Go.Proofs.YtfnknldbjckgoaaGreatDoor.Sp
open Go.RowKit Go.Proofs.YtfnknldbjckgoaaGreatDoorW.PrintWords Go.Proofs.YtfnknldbjckgoaaGreatDoorW.PrintLast Go.Proofs.YtfnknldbjckgoaaGreatDoorW.PrintMore Go.Proofs.YtfnknldbjckgoaaGreatDoor.Dig
set_option linter.unusedVariables false
set_option linter.unusedSimpArgs false
/-- A decimal in block b: its figures l at the head of block g (R behind them), its exponent e. -/
structure DX (w : World) (b g : Nat) (l : List Int) (R : List Value) (e : Int) : Prop where
  str : hp w b = some (.cells #[.slice (some ⟨g, 0, none⟩) l.length (l.length + R.length), .int .i64 e] 87 (0, 0))
  row : hp w g = some (.cells (nums .u8 l ++ R).toArray 5 (0, 0))
  len : l.length ≤ 100000000 ∧ l.length + R.length ≤ 9223372036854775807
theorem DX.ne {w : World} {b g : Nat} {l : List Int} {R : List Value} {e : Int} (h : DX w b g l R e) : b ≠ g := by
  rintro rfl
  have h1 := h.str.symm.trans h.row
  injection h1 with h1
  injection h1 with _ h2
  exact absurd h2 (by decide)
theorem row_cell {w : World} {g : Nat} {l : List Int} {R : List Value} {t : TypeId} (h : hp w g = some (.cells (nums .u8 l ++ R).toArray t (0, 0))) (j : Nat) (hj : j < l.length) : w.cell? ⟨g, j, none⟩ = some (.int .u8 (l.getD j 0)) := by
  rw [blk_cell h j]
  simp [nums, List.getElem?_append_left (show j < (l.map (Value.int .u8)).length by simpa using hj), List.getElem?_eq_getElem hj]
theorem DX.cell {w : World} {b g : Nat} {l : List Int} {R : List Value} {e : Int} (h : DX w b g l R e) (j : Nat) (hj : j < l.length) : w.cell? ⟨g, j, none⟩ = some (.int .u8 (l.getD j 0)) := row_cell h.row j hj
theorem DX.kept {w w' : World} {b g : Nat} {l : List Int} {R : List Value} {e : Int} {S : Nat → Prop} (h : DX w b g l R e) (hk : Kept S w w') (hb : ¬ S b) (hg : ¬ S g) : DX w' b g l R e := ⟨hp_kept h.str hk hb, hp_kept h.row hk hg, h.len⟩
theorem DX.below {w w' : World} {b g : Nat} {l : List Int} {R : List Value} {e : Int} (h : DX w b g l R e) (hb : Below w.heap.size w w') : DX w' b g l R e := ⟨hp_below h.str hb, hp_below h.row hb, h.len⟩
theorem nums_split (l : List Int) (n : Nat) (R : List Value) : nums .u8 l ++ R = nums .u8 (l.take n) ++ (nums .u8 (l.drop n) ++ R) := by
  rw [← List.append_assoc, ← nums_append, List.take_append_drop]
/-- Cut at n. -/
theorem DX.cut {w w' : World} {b g : Nat} {l : List Int} {R : List Value} {e e' : Int} (h : DX w b g l R e) (n : Nat) (hn : n ≤ l.length) (hs : hp w' b = some (.cells #[.slice (some ⟨g, 0, none⟩) n (l.length + R.length), .int .i64 e'] 87 (0, 0))) (hr : hp w' g = hp w g) : ∃ R', DX w' b g (l.take n) R' e' := by
  refine ⟨nums .u8 (l.drop n) ++ R, ?_, ?_, ?_⟩
  · have e1 : (l.take n).length = n := by rw [List.length_take]; omega
    have e2 : (l.take n).length + (nums .u8 (l.drop n) ++ R).length = l.length + R.length := by rw [e1, List.length_append]; simp [nums]; omega
    rw [e2, e1]
    exact hs
  · rw [hr, h.row, ← nums_split]
  · have := h.len
    simp [nums]
    omega
theorem DX.set {w : World} {b g : Nat} {l : List Int} {R : List Value} {e : Int} (h : DX w b g l R e) (i : Nat) (hi : i < l.length) (x : Int) : DX (w.setCell ⟨g, i, none⟩ (.int .u8 x)) b g (l.set i x) R e := by
  refine ⟨?_, ?_, ?_⟩
  · rw [hp_other _ _ _ _ (fun e => h.ne e.symm), List.length_set]
    exact h.str
  · rw [hp_here _ _ _ _ _ rfl, h.row]
    simp only [Option.map_some, setObj_cells]
    congr 2
    apply Array.toList_inj.1
    simp [nums, List.set_append_left, hi, List.map_set]
  · rw [List.length_set]; exact h.len
/-- What the functions on decimals leave. -/
def DxPost (w : World) (b g : Nat) (d : List Int × Int) (e : Ending) (w' : World) : Prop :=
  e = .returned (.tuple #[]) ∧ Kept (On2 b g) w w' ∧ ∃ R, DX w' b g d.1 R d.2
set_option maxHeartbeats 1600000 in
set_option maxRecDepth 100000 in
theorem at_c (b g : Nat) (l : List Int) (R : List Value) (e i : Int) (w : World) (h : DX w b g l R e) : Calls Tryz.prog 82 #[.pointer (some ⟨b, 0, none⟩), .int .i64 i] w fun e w' => e = .returned (.int .u8 (atI l i)) ∧ Below w.heap.size w w' := by
  obtain ⟨c0, c1, f0, f1⟩ := blk2 h.str
  have lg := hp_lt h.str
  by_cases h0 : 0 ≤ i
  · obtain ⟨j, rfl⟩ := Int.eq_ofNat_of_zero_le h0
    by_cases h1 : j < l.length
    · have hc := h.cell j h1
      obtain ⟨x, hx⟩ : ∃ x, x = l.getD j 0 := ⟨_, rfl⟩
      have HX : Aside0 (x = atI l (j : Int)) := ⟨by
        unfold atI
        rw [if_pos h0, Int.toNat_natCast, hx, List.getD_eq_getElem?_getD, List.getD_eq_getElem?_getD, List.getElem?_eq_getElem h1]
        rfl⟩
      rw [← hx] at hc
      rw [← HX.out]
      clear hx h
      go_enter Tryz.func82, Tryz.ntmps82
      go_wp2_with (fail)
      go_ret
      exact ⟨rfl, Below.refl _ _⟩
    · have hx : atI l (j : Int) = 48 := by
        unfold atI
        rw [if_pos h0, Int.toNat_natCast, List.getD_eq_getElem?_getD, List.getElem?_eq_none (by omega)]
        rfl
      rw [hx]
      clear hx h
      go_enter Tryz.func82, Tryz.ntmps82
      go_wp2_with (fail)
      go_ret
      exact ⟨rfl, Below.refl _ _⟩
  · have hx : atI l i = 48 := if_neg h0
    rw [hx]
    clear hx h
    go_enter Tryz.func82, Tryz.ntmps82
    go_wp2_with (fail)
    go_ret
    exact ⟨rfl, Below.refl _ _⟩
set_option maxHeartbeats 1600000 in
set_option maxRecDepth 100000 in
theorem trim_c (b g : Nat) (l : List Int) (R : List Value) (e : Int) (w : World) (h : DX w b g l R e) : Calls Tryz.prog 107 #[.pointer (some ⟨b, 0, none⟩)] w (DxPost w b g (rz l, if rz l = [] then 0 else e)) := by
  have HD := Aside0.mk h
  have hne := h.ne
  obtain ⟨c0, c1, f0, f1⟩ := blk2 h.str
  have lg := hp_lt h.str
  have hll : l.length ≤ 100000000 := by have := h.len; omega
  obtain ⟨e1, he1⟩ : ∃ e1, e1 = if rz l = [] then 0 else e := ⟨_, rfl⟩
  obtain ⟨l1, hl1⟩ : ∃ l1, l1 = rz l := ⟨_, rfl⟩
  rw [← he1, ← hl1]
  have HE := Aside0.mk he1
  have HL := Aside0.mk hl1
  clear h he1 hl1
  go_enter Tryz.func107, Tryz.ntmps107
  go_wp2_with (fail)
  go_loop [2] (fun v => ∃ n : Nat, n ≤ l.length ∧ v = .int .i64 (n : Int) ∧ Aside0 (∀ j : Nat, n ≤ j → j < l.length → l.getD j 0 = (48 : Int))) (fun v => (intOf v).toNat)
  case atStart => exact ⟨l.length, Nat.le_refl _, rfl, ⟨fun j h1 h2 => by omega⟩⟩
  case round =>
    obtain ⟨n, hn, rfl, HZ⟩ := hrel
    by_cases h0 : n = 0
    · subst h0
      have HZ2 := Aside0.mk (rz_of l 0 (Nat.zero_le _) HZ.out (.inl rfl))
      go_wp2_with (fail)
      refine bodyPost_ret (v := .tuple #[]) (by simp [results, Tryz.results107, go_sem]) rfl ?_
      have e0 : rz l = [] := HZ2.out.symm
      obtain ⟨R', hR⟩ := HD.out.cut (w' := (w.setCell ⟨b, 0, none⟩ (.slice (some ⟨g, 0, none⟩) 0 (l.length + R.length))).setCell ⟨b, 1, none⟩ (.int .i64 0)) (e' := 0) 0 (Nat.zero_le _) (by rw [hp_here _ _ _ _ _ rfl, hp_here _ _ _ _ _ rfl, HD.out.str]; rfl) (by rw [hp_other _ _ _ _ hne, hp_other _ _ _ _ hne])
      refine ⟨rfl, ((Kept.refl _ w).setCell (p := ⟨b, 0, none⟩) (.inl (.inl rfl)) _).setCell (p := ⟨b, 1, none⟩) (.inl (.inl rfl)) _, R', ?_⟩
      rw [HE.out, HL.out, if_pos e0, e0]
      exact hR
    · obtain ⟨k, rfl⟩ : ∃ k, n = k + 1 := ⟨n - 1, by omega⟩
      have hc := HD.out.cell k (by omega)
      obtain ⟨x, hx⟩ : ∃ x, x = l.getD k 0 := ⟨_, rfl⟩
      rw [← hx] at hc
      have HX := Aside0.mk hx
      clear hx
      by_cases h48 : x = 48
      · subst h48
        go_wp2_with (fail)
        go_round
        case rel => exact ⟨k, by omega, by simp, ⟨fun j h1 h2 => by
          rcases Nat.lt_or_ge k j with h3 | h3
          · exact HZ.out j h3 h2
          · obtain rfl : j = k := by omega
            exact HX.out.symm⟩⟩
        case measure => simp [intOf]
      · have HZ2 := Aside0.mk (rz_of l (k + 1) hn HZ.out (.inr (by rw [Nat.add_sub_cancel, ← HX.out]; exact h48)))
        go_wp2_with (fail)
        refine bodyPost_ret (v := .tuple #[]) (by simp [results, Tryz.results107, go_sem]) rfl ?_
        have e0 : rz l ≠ [] := by
          rw [← HZ2.out]
          intro h
          have := congrArg List.length h
          rw [List.length_take, List.length_nil] at this
          omega
        obtain ⟨R', hR⟩ := HD.out.cut (w' := w.setCell ⟨b, 0, none⟩ (.slice (some ⟨g, 0, none⟩) (k + 1) (l.length + R.length))) (e' := e) (k + 1) hn (by rw [hp_here _ _ _ _ _ rfl, HD.out.str]; rfl) (by rw [hp_other _ _ _ _ hne])
        refine ⟨rfl, (Kept.refl _ w).setCell (p := ⟨b, 0, none⟩) (.inl (.inl rfl)) _, R', ?_⟩
        rw [HE.out, HL.out, if_neg e0, ← HZ2.out]
        exact hR
set_option maxHeartbeats 1600000 in
set_option maxRecDepth 100000 in
theorem roundDown_c (b g n : Nat) (l : List Int) (R : List Value) (e : Int) (w : World) (h : DX w b g l R e) : Calls Tryz.prog 83 #[.pointer (some ⟨b, 0, none⟩), .int .i64 (n : Int)] w (DxPost w b g (roundDownD (l, e) n)) := by
  have HD := Aside0.mk h
  have hne := h.ne
  obtain ⟨c0, c1, f0, f1⟩ := blk2 h.str
  have lg := hp_lt h.str
  have hll : l.length ≤ 100000000 := by have := h.len; omega
  obtain ⟨d, hd⟩ : ∃ d, d = roundDownD (l, e) n := ⟨_, rfl⟩
  rw [← hd]
  have HE := Aside0.mk hd
  clear h hd
  by_cases hn : l.length ≤ n
  · go_enter Tryz.func83, Tryz.ntmps83
    go_wp2_with (fail)
    refine bodyPost_ret (v := .tuple #[]) (by simp [results, Tryz.results83, go_sem]) rfl ?_
    refine ⟨rfl, Kept.refl _ w, R, ?_⟩
    rw [HE.out]
    unfold roundDownD
    rw [if_pos hn]
    exact HD.out
  · have hlt : n < l.length := by omega
    obtain ⟨R', hR⟩ := HD.out.cut (w' := w.setCell ⟨b, 0, none⟩ (.slice (some ⟨g, 0, none⟩) n (l.length + R.length))) (e' := e) n (by omega) (by rw [hp_here _ _ _ _ _ rfl, HD.out.str]; rfl) (by rw [hp_other _ _ _ _ hne])
    have HT := Aside0.mk (trim_c b g _ R' e _ hR)
    clear hR
    go_enter Tryz.func83, Tryz.ntmps83
    go_wp2_with (go_at_call 107; refine HT.out.mono ?_; rintro e w1 ⟨rfl, hk, R1, h1⟩; have HK := Aside0.mk hk; have H1 := Aside0.mk h1; clear hk h1)
    refine bodyPost_ret (v := .tuple #[]) (by simp [results, Tryz.results83, go_sem]) rfl ?_
    refine ⟨rfl, ((Kept.refl _ w).setCell (p := ⟨b, 0, none⟩) (.inl (.inl rfl)) _).then HK.out, R1, ?_⟩
    rw [HE.out]
    unfold roundDownD
    rw [if_neg hn]
    exact H1.out
set_option maxHeartbeats 1600000 in
set_option maxRecDepth 100000 in
theorem shouldUp_c (b g n : Nat) (l : List Int) (R : List Value) (e : Int) (w : World) (h : DX w b g l R e) (hn : n < l.length) (hdig : ∀ c ∈ l, 48 ≤ c ∧ c ≤ 57) : Calls Tryz.prog 85 #[.pointer (some ⟨b, 0, none⟩), .int .i64 (n : Int)] w fun e w' => e = .returned (.bool (shouldUp l n)) ∧ w = w' := by
  obtain ⟨c0, c1, f0, f1⟩ := blk2 h.str
  have lg := hp_lt h.str
  have hll : l.length ≤ 100000000 := by have := h.len; omega
  have hc := h.cell n hn
  have hw1 : IntKind.i64.wrap ((n : Int) + 1) = ((n + 1 : Nat) : Int) := by rw [IntWalk.i64_in _ (by omega)]; omega
  obtain ⟨x, hx⟩ : ∃ x, x = l.getD n 0 := ⟨_, rfl⟩
  obtain ⟨u, hu⟩ : ∃ u, u = shouldUp l n := ⟨_, rfl⟩
  rw [← hx] at hc
  rw [← hu]
  unfold shouldUp at hu
  rw [← hx] at hu
  by_cases h1 : x = 53 ∧ n + 1 = l.length
  · rw [if_pos h1] at hu
    obtain ⟨h5, h6⟩ := h1
    subst h5
    have hb1 : ((n : Int) + 1 == (l.length : Int)) = true := by rw [beq_iff_eq]; omega
    have hb2 : (((n + 1 : Nat) : Int) == (l.length : Int)) = true := by rw [beq_iff_eq]; omega
    by_cases h0 : n = 0
    · subst h0
      have hu2 : u = false := by rw [hu]; simp
      subst hu2
      clear hu h hx
      go_enter Tryz.func85, Tryz.ntmps85
      go_wp2_with (fail)
      go_ret
      exact ⟨rfl, rfl⟩
    · obtain ⟨k, rfl⟩ : ∃ k, n = k + 1 := ⟨n - 1, by omega⟩
      have hc1 := h.cell k (by omega)
      rw [Nat.add_sub_cancel] at hu
      obtain ⟨y, hy⟩ : ∃ y, y = l.getD k 0 := ⟨_, rfl⟩
      rw [← hy] at hc1 hu
      have hyd : 48 ≤ y ∧ y ≤ 57 := by
        rw [hy, List.getD_eq_getElem?_getD, List.getElem?_eq_getElem (show k < l.length by omega)]
        exact hdig _ (List.getElem_mem _)
      have hsub : IntKind.u8.wrap (y - 48) = y - 48 := by rw [IntKind.wrap_u8']; omega
      obtain ⟨r, hr⟩ : ∃ r, r = (y - 48) % 2 := ⟨_, rfl⟩
      have hand : Go.bits .and .u8 (y - 48) 1 = r := by
        rw [u8_and _ _ (by omega) (by omega) (by omega) (by omega)]
        show (((y - 48).toNat &&& 1 : Nat) : Int) = r
        rw [Nat.and_one_is_mod]
        omega
      have hr2 : r = 0 ∨ r = 1 := by omega
      rw [← hr] at hu
      have hk0 : 0 < k + 1 := by omega
      clear h hx hy hr
      rcases hr2 with rfl | rfl
      · have hu2 : u = false := by rw [hu]; simp
        subst hu2
        clear hu
        go_enter Tryz.func85, Tryz.ntmps85
        go_wp2_with (fail)
        go_ret
        exact ⟨rfl, rfl⟩
      · have hu2 : u = true := by rw [hu]; simp
        subst hu2
        clear hu
        go_enter Tryz.func85, Tryz.ntmps85
        go_wp2_with (fail)
        go_ret
        exact ⟨rfl, rfl⟩
  · rw [if_neg h1] at hu
    by_cases h5 : x = 53
    · have h6 : ¬ n + 1 = l.length := fun h6 => h1 ⟨h5, h6⟩
      have hb1 : ((n : Int) + 1 == (l.length : Int)) = false := by rw [beq_eq_false_iff_ne]; omega
      have hb2 : (((n + 1 : Nat) : Int) == (l.length : Int)) = false := by rw [beq_eq_false_iff_ne]; omega
      have hu2 : u = true := by rw [hu]; exact decide_eq_true (by omega)
      subst h5 hu2
      clear hu h hx h1
      go_enter Tryz.func85, Tryz.ntmps85
      go_wp2_with (fail)
      go_ret
      exact ⟨rfl, rfl⟩
    · have hxb : (x == 53) = false := by rw [beq_eq_false_iff_ne]; exact h5
      have HU := Aside0.mk hu
      clear hu h hx h1
      go_enter Tryz.func85, Tryz.ntmps85
      go_wp2_with (fail)
      go_ret
      exact ⟨by rw [HU.out]; rfl, rfl⟩
set_option maxHeartbeats 1600000 in
set_option maxRecDepth 100000 in
theorem roundUp_c (b g n : Nat) (l : List Int) (R : List Value) (e : Int) (w : World) (h : DX w b g l R e) (he : -10000000 ≤ e ∧ e ≤ 10000000) (hdig : ∀ c ∈ l, 48 ≤ c ∧ c ≤ 57) (hnb : n ≤ 100000000) : Calls Tryz.prog 84 #[.pointer (some ⟨b, 0, none⟩), .int .i64 (n : Int)] w (DxPost w b g (roundUpD (l, e) n)) := by
  have HD := Aside0.mk h
  have HG := Aside0.mk hdig
  have hne := h.ne
  obtain ⟨c0, c1, f0, f1⟩ := blk2 h.str
  have fg : ∀ i, w.frozen? ⟨g, i, none⟩ = false := fun i => blk_frozen h.row i
  have HF := Aside0.mk fg
  have lg := hp_lt h.str
  have hll : l.length ≤ 100000000 := by have := h.len; omega
  have hew : IntKind.i64.wrap (e + 1) = e + 1 := IntWalk.i64_in _ (by omega)
  obtain ⟨d, hd⟩ : ∃ d, d = roundUpD (l, e) n := ⟨_, rfl⟩
  rw [← hd]
  have HE := Aside0.mk hd
  clear h hd hdig fg
  by_cases hn : l.length ≤ n
  · go_enter Tryz.func84, Tryz.ntmps84
    go_wp2_with (fail)
    refine bodyPost_ret (v := .tuple #[]) (by simp [results, Tryz.results84, go_sem]) rfl ?_
    refine ⟨rfl, Kept.refl _ w, R, ?_⟩
    rw [HE.out]
    unfold roundUpD
    rw [if_pos hn]
    exact HD.out
  · have hlt : n < l.length := by omega
    have HE2 : Aside0 (d = if up9 l n = 0 then ([49], e + 1) else (l.take (up9 l n - 1) ++ [l.getD (up9 l n - 1) 0 + 1], e)) := ⟨by rw [HE.out]; unfold roundUpD; rw [if_neg hn]⟩
    go_enter Tryz.func84, Tryz.ntmps84
    go_wp2_with (fail)
    go_loop [1] (fun v => ∃ m : Nat, m ≤ n ∧ v = .int .i64 (m : Int) ∧ Aside0 (up9 l m = up9 l n)) (fun v => (intOf v).toNat)
    case atStart => exact ⟨n, Nat.le_refl _, rfl, ⟨rfl⟩⟩
    case round =>
      obtain ⟨m, hm, rfl, HM⟩ := hrel
      by_cases h0 : m = 0
      · subst h0
        have hc := HD.out.cell 0 (by omega)
        have fg0 := HF.out 0
        have lgg := hp_lt HD.out.row
        have hl0 : 0 < l.length := by omega
        have hl1 : 1 ≤ l.length := by omega
        have hR := HD.out.set 0 (by omega) 49
        obtain ⟨R', hR2⟩ := hR.cut (w' := ((w.setCell ⟨g, 0, none⟩ (.int .u8 49)).setCell ⟨b, 0, none⟩ (.slice (some ⟨g, 0, none⟩) 1 ((l.set 0 49).length + R.length))).setCell ⟨b, 1, none⟩ (.int .i64 (e + 1))) (e' := e + 1) 1 (by rw [List.length_set]; omega) (by rw [hp_here _ _ _ _ _ rfl, hp_here _ _ _ _ _ rfl, hR.str]; rfl) (by rw [hp_other _ _ _ _ hne, hp_other _ _ _ _ hne])
        rw [List.length_set] at hR2
        have H2 := Aside0.mk hR2
        clear hR hR2
        go_wp2_with (fail)
        refine bodyPost_ret (v := .tuple #[]) (by simp [results, Tryz.results84, go_sem]) rfl ?_
        refine ⟨rfl, (((Kept.refl _ w).setCell (p := ⟨g, 0, none⟩) (.inl (.inr rfl)) _).setCell (p := ⟨b, 0, none⟩) (.inl (.inl rfl)) _).setCell (p := ⟨b, 1, none⟩) (.inl (.inl rfl)) _, R', ?_⟩
        rw [HE2.out, if_pos (by rw [← HM.out]; rfl)]
        have e1 : (l.set 0 49).take 1 = [49] := by
          obtain ⟨x, t, rfl⟩ : ∃ x t, l = x :: t := by
            cases l with
            | nil => simp at hl0
            | cons x t => exact ⟨x, t, rfl⟩
          rfl
        rw [← e1]
        exact H2.out
      · obtain ⟨k, rfl⟩ : ∃ k, m = k + 1 := ⟨m - 1, by omega⟩
        have hc := HD.out.cell k (by omega)
        obtain ⟨x, hx⟩ : ∃ x, x = l.getD k 0 := ⟨_, rfl⟩
        have hxd : 48 ≤ x ∧ x ≤ 57 := by
          rw [hx, List.getD_eq_getElem?_getD, List.getElem?_eq_getElem (show k < l.length by omega)]
          exact HG.out _ (List.getElem_mem _)
        rw [← hx] at hc
        have HX := Aside0.mk hx
        clear hx
        by_cases h9 : 57 ≤ x
        · go_wp2_with (fail)
          go_round
          case rel => exact ⟨k, by omega, by simp, ⟨by rw [← HM.out, up9, if_pos (by rw [← HX.out]; exact h9)]⟩⟩
          case measure => simp [intOf]
        · have hu : up9 l n = k + 1 := by rw [← HM.out, up9, if_neg (by rw [← HX.out]; exact h9)]
          have HU := Aside0.mk hu
          have fgk := HF.out k
          have lgg := hp_lt HD.out.row
          have hxw : IntKind.u8.wrap (x + 1) = x + 1 := by rw [IntKind.wrap_u8']; omega
          have hkl : k < l.length := by omega
          have hkl1 : k + 1 ≤ l.length := by omega
          have hR := HD.out.set k hkl (x + 1)
          obtain ⟨R', hR2⟩ := hR.cut (w' := (w.setCell ⟨g, k, none⟩ (.int .u8 (x + 1))).setCell ⟨b, 0, none⟩ (.slice (some ⟨g, 0, none⟩) (k + 1) ((l.set k (x + 1)).length + R.length))) (e' := e) (k + 1) (by rw [List.length_set]; omega) (by rw [hp_here _ _ _ _ _ rfl, hR.str]; rfl) (by rw [hp_other _ _ _ _ hne])
          rw [List.length_set] at hR2
          have H2 := Aside0.mk hR2
          clear hR hR2 hu
          go_wp2_with (fail)
          refine bodyPost_ret (v := .tuple #[]) (by simp [results, Tryz.results84, go_sem]) rfl ?_
          refine ⟨rfl, ((Kept.refl _ w).setCell (p := ⟨g, k, none⟩) (.inl (.inr rfl)) _).setCell (p := ⟨b, 0, none⟩) (.inl (.inl rfl)) _, R', ?_⟩
          rw [HE2.out, HU.out, if_neg (by omega), Nat.add_sub_cancel, ← HX.out]
          have e1 : (l.set k (x + 1)).take (k + 1) = l.take k ++ [x + 1] := by
            rw [List.take_succ_eq_append_getElem (by rw [List.length_set]; exact hkl), List.getElem_set_self, List.take_set_of_le (Nat.le_refl k)]
          rw [← e1]
          exact H2.out
set_option maxHeartbeats 1600000 in
set_option maxRecDepth 100000 in
theorem round_d (b g : Nat) (n : Int) (l : List Int) (R : List Value) (e : Int) (w : World) (h : DX w b g l R e) (he : -10000000 ≤ e ∧ e ≤ 10000000) (hdig : ∀ c ∈ l, 48 ≤ c ∧ c ≤ 57) : Calls Tryz.prog 54 #[.pointer (some ⟨b, 0, none⟩), .int .i64 n] w (DxPost w b g (roundD (l, e) n)) := by
  have HD := Aside0.mk h
  have HG := Aside0.mk hdig
  obtain ⟨c0, c1, f0, f1⟩ := blk2 h.str
  have lg := hp_lt h.str
  have hll : l.length ≤ 100000000 := by have := h.len; omega
  obtain ⟨d, hd⟩ : ∃ d, d = roundD (l, e) n := ⟨_, rfl⟩
  rw [← hd]
  have HE := Aside0.mk hd
  clear h hd hdig
  by_cases hn : n < 0 ∨ (l.length : Int) ≤ n
  · have hend : DxPost w b g d (.returned (.tuple #[])) w := ⟨rfl, Kept.refl _ w, R, by rw [HE.out]; unfold roundD; rw [if_pos hn]; exact HD.out⟩
    have HEND := Aside0.mk hend
    clear hend
    rcases hn with hn | hn
    · go_enter Tryz.func54, Tryz.ntmps54
      go_wp2_with (fail)
      refine bodyPost_ret (v := .tuple #[]) (by simp [results, Tryz.results54, go_sem]) rfl ?_
      exact HEND.out
    · by_cases h0 : n < 0
      · go_enter Tryz.func54, Tryz.ntmps54
        go_wp2_with (fail)
        refine bodyPost_ret (v := .tuple #[]) (by simp [results, Tryz.results54, go_sem]) rfl ?_
        exact HEND.out
      · go_enter Tryz.func54, Tryz.ntmps54
        go_wp2_with (fail)
        refine bodyPost_ret (v := .tuple #[]) (by simp [results, Tryz.results54, go_sem]) rfl ?_
        exact HEND.out
  · obtain ⟨k, rfl⟩ := Int.eq_ofNat_of_zero_le (show 0 ≤ n by omega)
    have hk : k < l.length := by omega
    have hk2 : ¬ (k : Int) < 0 := by omega
    have HE2 : Aside0 (d = if shouldUp l k then roundUpD (l, e) k else roundDownD (l, e) k) := ⟨by rw [HE.out]; unfold roundD; rw [if_neg hn]; rfl⟩
    have HS := Aside0.mk (shouldUp_c b g k l R e w HD.out hk HG.out)
    have HU := Aside0.mk (roundUp_c b g k l R e w HD.out he HG.out (by omega))
    have HW := Aside0.mk (roundDown_c b g k l R e w HD.out)
    clear hn
    cases hs : shouldUp l k with
    | true =>
      rw [hs] at HS
      have HEU : Aside0 (d = roundUpD (l, e) k) := ⟨by rw [HE2.out, hs]; rfl⟩
      clear hs
      go_enter Tryz.func54, Tryz.ntmps54
      go_wp2_with (first | (go_at_call 85; refine HS.out.mono ?_; rintro e w1 ⟨rfl, rfl⟩) | (go_at_call 84; refine HU.out.mono ?_; rintro e w1 ⟨rfl, hk, h1⟩; have HK := Aside0.mk hk; have H1 := Aside0.mk h1; clear hk h1) | fail)
      refine bodyPost_ret (v := .tuple #[]) (by simp [results, Tryz.results54, go_sem]) rfl ?_
      exact ⟨rfl, HK.out, by rw [HEU.out]; exact H1.out⟩
    | false =>
      rw [hs] at HS
      have HEU : Aside0 (d = roundDownD (l, e) k) := ⟨by rw [HE2.out, hs]; rfl⟩
      clear hs
      go_enter Tryz.func54, Tryz.ntmps54
      go_wp2_with (first | (go_at_call 85; refine HS.out.mono ?_; rintro e w1 ⟨rfl, rfl⟩) | (go_at_call 83; refine HW.out.mono ?_; rintro e w1 ⟨rfl, hk, h1⟩; have HK := Aside0.mk hk; have H1 := Aside0.mk h1; clear hk h1) | fail)
      refine bodyPost_ret (v := .tuple #[]) (by simp [results, Tryz.results54, go_sem]) rfl ?_
      exact ⟨rfl, HK.out, by rw [HEU.out]; exact H1.out⟩
end Go.Proofs.YtfnknldbjckgoaaGreatDoor.Sp
end

/-! ## DecR -/
section
namespace Go.Proofs.YtfnknldbjckgoaaGreatDoor.Sp
open Go.RowKit Go.Proofs.YtfnknldbjckgoaaGreatDoorW.PrintWords Go.Proofs.YtfnknldbjckgoaaGreatDoorW.PrintLast Go.Proofs.YtfnknldbjckgoaaGreatDoorW.PrintMore Go.Proofs.YtfnknldbjckgoaaGreatDoor.Dig
set_option linter.unusedVariables false
set_option linter.unusedSimpArgs false
theorem ph1_stop (s n r : Nat) (l : List Int) (h : n / 2 ^ s ≠ 0 ∨ l = []) : ph1 s n l r = (n, l, r) := by
  cases l with
  | nil => rfl
  | cons c t =>
    rw [ph1, if_neg]
    rcases h with h | h
    · exact h
    · cases h
theorem ph2_stop (s f n r : Nat) (h : n / 2 ^ s ≠ 0) : ph2 s f n r = (n, r) := by
  cases f with
  | zero => rfl
  | succ f => rw [ph2, if_neg h]
/-- What is still to be written comes to its end. -/
def Fin2 (s f n : Nat) : Prop := ∃ j, j + f = s + 1 ∧ 2 ^ j ∣ n ∧ (f = 0 → n = 0)
theorem Fin2.start (s n : Nat) : Fin2 s (s + 1) n := ⟨0, by omega, by rw [Nat.pow_zero]; exact Nat.one_dvd n, fun h => by omega⟩
theorem Fin2.step {s f n : Nat} (h : Fin2 s (f + 1) n) : Fin2 s f (n % 2 ^ s * 10) := by
  obtain ⟨j, h1, h2, h3⟩ := h
  refine ⟨j + 1, by omega, two_dvd_step h2 (by omega), fun h4 => ?_⟩
  have hj : j = s := by omega
  subst hj
  rw [Nat.mod_eq_zero_of_dvd h2, Nat.zero_mul]
theorem Fin2.end {s f n : Nat} (h : Fin2 s f n) (hn : 0 < n) : ∃ k, f = k + 1 := by
  obtain ⟨j, h1, h2, h3⟩ := h
  cases f with
  | zero => have := h3 rfl; omega
  | succ k => exact ⟨k, rfl⟩
theorem gen0_zero (s f : Nat) : gen0 s f 0 = [] := by
  cases f with
  | zero => rfl
  | succ f => rw [gen0, if_pos rfl]
theorem shr_nat (n s : Nat) : (n : Int) / 2 ^ s = ((n / 2 ^ s : Nat) : Int) := by simp
/-- What append leaves of a decimal's figures. -/
theorem dx_append {w : World} {b g : Nat} {L : List Int} {R : List Value} {e : Int} (h : DX w b g L R e) {ops : Array Oper} {rest : List Oper} {o : Oper} {a : Act} {Q : Exit → Act → World → Prop} (hgd : o.guard = none) (sl x : Operand)
    (ho : o.op = .call { callee := .builtin .append, args := #[sl, x], argTypes := #[43, 43] })
    (m : List Int) (ad : Addr) (c : Nat) (hs : a.eval sl = .slice (some ⟨g, 0, none⟩) L.length (L.length + R.length)) (hx : a.eval x = .slice (some ad) m.length c) (hc : ∀ j, j < m.length → w.cell? (ad.add j) = some (.int .u8 (m.getD j 0))) (hl : L.length + m.length ≤ 90000000)
    (k : ∀ g' R' w', (g' = g ∨ g' = w.heap.size) → hp w' g' = some (.cells (nums .u8 (L ++ m) ++ R').toArray 5 (0, 0)) → (L ++ m).length + R'.length ≤ 9223372036854775807 → Kept (On g) w w' → wpList Tryz.prog ops Q rest (a.put o.dst (.slice (some ⟨g', 0, none⟩) (L ++ m).length ((L ++ m).length + R'.length))) w') : wpList Tryz.prog ops Q (o :: rest) a w := by
  obtain ⟨i, hi, hz, hsz, hby⟩ := info_parts infoU8
  have hnews : ∀ j u, (nums .u8 m)[j]? = some u → w.cell? (ad.add j) = some u := by
    intro j u hu
    rw [nums, List.getElem?_map] at hu
    cases e : m[j]? with
    | none => rw [e] at hu; cases hu
    | some q =>
      rw [e] at hu
      have hj := (List.getElem?_eq_some_iff.1 e).1
      have h2 := hc j hj
      rw [List.getD_eq_getElem?_getD, e] at h2
      rw [h2]
      exact hu
  have hone : ∀ u ∈ nums .u8 m, u.oneCell' = true := by
    intro u hu
    simp [nums] at hu
    obtain ⟨q, _, rfl⟩ := hu
    rfl
  have hown : w.ownsRow g 5 1 (.slice (some ⟨g, 0, none⟩) L.length (L.length + R.length)) L.length (nums .u8 L) := by
    refine ⟨by simp [nums], .inr ⟨g, _, _, rfl, Nat.le_refl _, h.row, by omega, by have := h.len; unfold maxLen; omega, by simp [nums], ?_⟩⟩
    simp [nums]
  have hmx : L.length + m.length ≤ maxLen := by unfold maxLen; omega
  have hlen : (nums .u8 m).length = m.length * 1 := by simp [nums]
  obtain ⟨v', w', hr, h2, h3, _⟩ := run_append_own (P := Tryz.prog) w g 43 o.type 5 i (.int .u8 0) 1 1 Tryz.underlying43 hi hz hsz hby rfl (by decide) _ L.length _ hown ad m.length c (nums .u8 m) hlen hnews hone hmx (by omega) (Nat.le_of_lt (hp_lt h.row))
  obtain ⟨v2, w2, hr2, hwh⟩ := append_where (P := Tryz.prog) w g 43 o.type 5 i (.int .u8 0) 1 1 Tryz.underlying43 hi hz hsz hby rfl (by decide) _ L.length _ hown ad m.length c (nums .u8 m) hlen hnews hone hmx (by omega)
  rw [hr] at hr2
  injection hr2 with e1 e2
  subst e1 e2
  refine wpList_plain hgd fun K hK => ?_
  unfold Oper.wp execOp
  simp only [ho, resolve, invoke, builtin, Sem.run_bind, Sem.run_pure, Result.andThen_ok, List.map_toArray, List.map_cons, List.map_nil, hs, hx, hr]
  have hk : Kept (On g) w w' := ⟨h3.os, h3.tape, h3.output, h3.size, fun i hi hS => h3.block i hi (fun e => by injection e with e; exact hS e)⟩
  rcases h2.2 with ⟨rfl, h0⟩ | ⟨g', cap, cur, rfl, hb, h4, h5, h6, h7, h8⟩
  · rcases hwh with hwh | hwh <;> simp [Value.ownBlock] at hwh
  · have hg : g' = g ∨ g' = w.heap.size := by
      rcases hwh with hwh | hwh
      · left; simpa [Value.ownBlock] using hwh
      · right; simpa [Value.ownBlock] using hwh
    have hlm : (L ++ m).length = L.length + m.length := List.length_append
    have hcur : cur = (nums .u8 (L ++ m) ++ cur.toList.drop (L.length + m.length)).toArray := by
      apply Array.toList_inj.1
      rw [nums_append, ← h8]
      simp
    have hcap : cap = (L ++ m).length + (cur.toList.drop (L.length + m.length)).length := by
      have h10 : cur.toList.length = cap := by simpa using h7
      rw [List.length_drop, h10, hlm]; omega
    have h9 := k g' (cur.toList.drop (L.length + m.length)) w' hg (by rw [← hcur]; exact h4) (by rw [← hcap]; unfold maxLen at h6; omega) hk
    rw [← hcap, hlm] at h9
    exact hK _ _ h9
theorem dx_byte {w0 : World} {b g : Nat} {L : List Int} {R : List Value} {e : Int} (h : DX w0 b g L R e) {ops : Array Oper} {rest : List Oper} {o : Oper} {a : Act} {Q : Exit → Act → World → Prop} (hgd : o.guard = none) (sl x : Operand)
    (ho : o.op = .call { callee := .builtin .append, args := #[sl, x], argTypes := #[43, 43] })
    (y : Int) (hs : a.eval sl = .slice (some ⟨g, 0, none⟩) L.length (L.length + R.length)) (hx : a.eval x = .slice (some ⟨w0.heap.size, 0, none⟩) 1 1) (hl : L.length ≤ 80000000)
    (k : ∀ g' R' w' n' c, (g' = g ∨ w0.heap.size ≤ g') → Aside0 (DX (w'.setCell ⟨b, 0, none⟩ (.slice (some ⟨g', 0, none⟩) n' c)) b g' (L ++ [y]) R' e) → Aside0 (Kept (On2 b g) w0 (w'.setCell ⟨b, 0, none⟩ (.slice (some ⟨g', 0, none⟩) n' c))) → Aside0 (hp w' b = hp w0 b) → wpList Tryz.prog ops Q rest (a.put o.dst (.slice (some ⟨g', 0, none⟩) n' c)) w') : wpList Tryz.prog ops Q (o :: rest) a (w0.alloc (.cells #[.int .u8 y] 5)) := by
  have hb0 := hp_lt h.str
  refine dx_append (h.below (below_alloc (Below.refl _ _) _)) hgd sl x ho [y] ⟨w0.heap.size, 0, none⟩ 1 hs hx ?_ (by simp; omega) (fun g' R' w' hg h1 h2 hk => ?_)
  · intro j hj
    match j, hj with
    | 0, _ => simp [Addr.add]
  · have hge : g' = g ∨ w0.heap.size ≤ g' := by
      rcases hg with hg | hg
      · exact .inl hg
      · right; rw [hg]; simp
    have hne : b ≠ g' := by
      rcases hge with hg | hg
      · rw [hg]; exact h.ne
      · omega
    have hk2 : Kept (On2 b g) w0 w' := ((Kept.refl (On2 b g) w0).alloc _).trans hk (fun i _ hi => .inr hi)
    have hbb : hp w' b = hp w0 b := by
      have h3 := hp_kept (hp_below h.str (below_alloc (Below.refl w0.heap.size w0) (.cells #[.int .u8 y] 5))) hk h.ne
      rw [h3, h.str]
    refine k g' R' w' _ _ hge ⟨⟨?_, ?_, ?_⟩⟩ ⟨hk2.setCell (p := ⟨b, 0, none⟩) (.inl (.inl rfl)) _⟩ ⟨hbb⟩
    · rw [hp_here _ _ _ _ _ rfl, hbb, h.str]; rfl
    · rw [hp_other _ _ _ _ hne]; exact h1
    · exact ⟨by simp; omega, h2⟩
/-- What rsh leaves. -/
def DrPost (w : World) (b g : Nat) (d : List Int × Int) (e : Ending) (w' : World) : Prop :=
  e = .returned (.tuple #[]) ∧ Kept (On2 b g) w w' ∧ ∃ g' R, (g' = g ∨ w.heap.size ≤ g') ∧ DX w' b g' d.1 R d.2
set_option maxHeartbeats 12800000 in
set_option maxRecDepth 100000 in
theorem rsh_c (b g s : Nat) (l : List Int) (R : List Value) (e : Int) (w : World) (h : DX w b g l R e) (hl : Dc l) (hs : s ≤ 60) (he : -10000000 ≤ e ∧ e ≤ 10000000) (hlb : l.length ≤ 1000000) : Calls Tryz.prog 76 #[.pointer (some ⟨b, 0, none⟩), .int .u64 (s : Int)] w (DrPost w b g (rshD (l, e) s)) := by
  obtain ⟨n1, r1, t1, hq, hn1, hn1b, hr1, htl, htd, hp1, hp2, hp3, hp4⟩ := rshD_inv l s hl hs
  obtain ⟨n2, hn2⟩ : ∃ n2, n2 = (ph2 s 64 n1 r1).1 := ⟨_, rfl⟩
  obtain ⟨r2, hr2⟩ : ∃ r2, r2 = (ph2 s 64 n1 r1).2 := ⟨_, rfl⟩
  have hpe : ph2 s 64 n1 r1 = (n2, r2) := by rw [hn2, hr2]
  rw [← hn2] at hp1 hp2
  rw [← hr2] at hp3 hp4
  have hP : 2 ^ s ≤ 1152921504606846976 := Nat.pow_le_pow_right (n := 2) (by omega) hs
  have hP0 := Nat.two_pow_pos s
  have HP := Aside0.mk (show 2 ^ s ≤ 1152921504606846976 ∧ 0 < 2 ^ s from ⟨hP, hP0⟩)
  have HQ := Aside0.mk hq
  have HN1 := Aside0.mk (show 0 < n1 ∧ n1 < 10 * 2 ^ s ∧ 0 < r1 ∧ t1.length + r1 = l.length from ⟨hn1, hn1b, hr1, htl⟩)
  have HN2 := Aside0.mk (show n2 < 10 * 2 ^ s ∧ 2 ^ s ≤ n2 ∧ r1 ≤ r2 ∧ r2 ≤ r1 + 64 from ⟨hp1, hp2, hp3, hp4⟩)
  have HPE := Aside0.mk hpe
  have HTD := Aside0.mk htd
  have HD := Aside0.mk h
  have HL := Aside0.mk hl
  have hne := h.ne
  obtain ⟨c0, c1, f0, f1⟩ := blk2 h.str
  have lg := hp_lt h.str
  have hs64 : s < 64 := by omega
  obtain ⟨e1, he1⟩ : ∃ e1, e1 = e + (1 - (r2 : Int)) := ⟨_, rfl⟩
  have HE1 := Aside0.mk he1
  obtain ⟨M, hM⟩ : ∃ M : Int, M = 2 ^ s - 1 := ⟨_, rfl⟩
  have h2s : (2 : Int) ^ s = ((2 ^ s : Nat) : Int) := by simp
  have hmk : IntKind.u64.wrap (IntKind.u64.wrap (2 ^ s) - 1) = M := by
    rw [hM, h2s]
    simp only [IntKind.wrap_u64]
    omega
  have HMM : Aside0 (∀ n : Nat, n < 11529215046068469760 → Go.bits .and .u64 (n : Int) M = ((n % 2 ^ s : Nat) : Int)) := ⟨fun n hn => by
    rw [hM, h2s, show (((2 ^ s : Nat) : Int) - 1) = ((2 ^ s - 1 : Nat) : Int) by omega, u64_and_nat _ _ (by omega) (by omega), Nat.and_two_pow_sub_one_eq_mod]⟩
  have hr1l : r1 ≤ 1000000 := by omega
  have hr2l : r2 ≤ 1000064 := by omega
  obtain ⟨OUT, hO⟩ : ∃ OUT, OUT = gen s n2 t1 := ⟨_, rfl⟩
  have HO := Aside0.mk hO
  have HFIN : Aside0 (rshD (l, e) s = (rz OUT, if rz OUT = [] then 0 else e1)) := ⟨by
    unfold rshD
    simp only [hq]
    rw [hpe, ← hO, he1, show e + 1 - (r2 : Int) = e + (1 - (r2 : Int)) by omega]⟩
  have HOL : Aside0 (OUT.length ≤ 1000061) := ⟨by have := gen_len s n2 t1; rw [← hO] at this; omega⟩
  have HT1 : Aside0 (l.drop r2 = t1) := ⟨by
    have h1 := ph1_drop s 0 l l 0 rfl
    rw [hq] at h1
    simp only at h1
    by_cases ht : t1 = []
    · rw [ht] at htl ⊢
      simp at htl
      exact List.drop_eq_nil_of_le (by omega)
    · have h2 := (ph1_inv s 0 0 l hl.dig (by omega)).2.1
      rw [hq] at h2
      have h3 : 2 ^ s ≤ n1 := h2 ht
      have h4 := ph2_stop s 64 n1 r1 (by have := Nat.div_pos h3 hP0; omega)
      rw [hpe] at h4
      injection h4 with _ h4
      rw [h4, ← h1]⟩
  obtain ⟨D, hDD⟩ : ∃ D, D = rshD (l, e) s := ⟨_, rfl⟩
  rw [← hDD] at HFIN ⊢
  have hn1w : n1 < 11529215046068469760 := by omega
  have hn1z : ((n1 : Int) == 0) = false := by rw [beq_eq_false_iff_ne]; omega
  clear h hl hq hn1 hn1b htl htd hp1 hp2 hp3 hp4 hn2 hr2 hpe hP hP0 he1 hM h2s hO hDD
  go_enter Tryz.func76, Tryz.ntmps76
  go_upto_block 0 with (fail)
  go_cut [4, 5] (fun v4 v5 wx => v4 = .int .i64 (r1 : Int) ∧ v5 = .int .u64 (n1 : Int) ∧ w = wx)
  case first =>
    go_wp2_with (fail)
    go_loopg [4, 5] (l.length) (fun k v4 v5 wr => ∃ r n : Nat, k = l.length - r ∧ v4 = .int .i64 (r : Int) ∧ v5 = .int .u64 (n : Int) ∧ r ≤ l.length ∧ Aside0 (ph1 s n (l.drop r) r = (n1, t1, r1)) ∧ Aside0 (n < 10 * 2 ^ s) ∧ w = wr)
    case atStart => exact ⟨0, 0, by omega, rfl, rfl, Nat.zero_le _, ⟨HQ.out⟩, ⟨by have := HP.out; omega⟩, rfl⟩
    case round =>
      obtain ⟨r, n, rfl, rfl, rfl, hr, HR, HNN, rfl⟩ := hrel
      have hnb : n < 11529215046068469760 := by have := HNN.out; have := HP.out; omega
      by_cases hq0 : n / 2 ^ s = 0
      · have hb : ((n : Int) / 2 ^ s == 0) = true := by rw [shr_nat, hq0]; rfl
        by_cases hrl : r = l.length
        · have hst := ph1_stop s n r (l.drop r) (.inr (by rw [hrl, List.drop_length]))
          have hR := HR.out
          rw [hst] at hR
          injection hR with e1 hR
          injection hR with e2 e3
          have E1 := Aside0.mk e1
          have E3 := Aside0.mk e3
          clear hst e1 e2 e3
          go_wp2_with (fail)
          go_meet
          case rel => exact ⟨by rw [E3.out], by rw [E1.out], rfl⟩
        · have hlt : r < l.length := by omega
          have hc := HD.out.cell r hlt
          obtain ⟨x, hx⟩ : ∃ x, x = l.getD r 0 := ⟨_, rfl⟩
          have hxd := HL.out.get r hlt
          rw [← hx] at hc hxd
          have hn2s := lt_of_div0 hq0
          have hn60 : n < 1152921504606846976 := by have := HP.out; omega
          have hxw : IntKind.u64.wrap x = x := by rw [IntKind.wrap_u64]; omega
          have HX : Aside0 (ph1 s (n * 10 + (x - 48).toNat) (l.drop (r + 1)) (r + 1) = (n1, t1, r1)) := ⟨by
            have hR := HR.out
            rw [List.drop_eq_getElem_cons hlt, ph1, if_pos hq0] at hR
            have hx2 : l[r] = x := by rw [hx, List.getD_eq_getElem?_getD, List.getElem?_eq_getElem hlt]; rfl
            rw [hx2] at hR
            exact hR⟩
          have HN3 : Aside0 (n * 10 + (x - 48).toNat < 10 * 2 ^ s) := ⟨by omega⟩
          have hw1 : IntKind.u64.wrap ((n : Int) * 10) = (n : Int) * 10 := by rw [IntKind.wrap_u64]; omega
          have hw2 : IntKind.u64.wrap ((n : Int) * 10 + x) = (n : Int) * 10 + x := by rw [IntKind.wrap_u64]; omega
          have hw3 : IntKind.u64.wrap ((n : Int) * 10 + x - 48) = (n : Int) * 10 + x - 48 := by rw [IntKind.wrap_u64]; omega
          have hwr : IntKind.i64.wrap ((r : Int) + 1) = ((r + 1 : Nat) : Int) := by rw [IntWalk.i64_in _ (by omega)]; omega
          clear hx hn2s
          go_wp2_with (fail)
          go_roundg (l.length - (r + 1))
          case measure => omega
          case rel => exact ⟨r + 1, n * 10 + (x - 48).toNat, rfl, by simp, congrArg (Value.int .u64) (by omega), by omega, HX, HN3, rfl⟩
      · have hb : ((n : Int) / 2 ^ s == 0) = false := by rw [shr_nat, beq_eq_false_iff_ne]; omega
        have hst := ph1_stop s n r (l.drop r) (.inl hq0)
        have hR := HR.out
        rw [hst] at hR
        injection hR with e1 hR
        injection hR with e2 e3
        have E1 := Aside0.mk e1
        have E3 := Aside0.mk e3
        clear hst e1 e2 e3 hq0
        go_wp2_with (fail)
        go_meet
        case rel => exact ⟨by rw [E3.out], by rw [E1.out], rfl⟩
  case rest =>
    obtain ⟨rfl, rfl, rfl⟩ := hcut
    go_upto_block 2 with (fail)
    go_cut [4, 5] (fun v4 v5 wx => v4 = .int .i64 (r2 : Int) ∧ v5 = .int .u64 (n2 : Int) ∧ w = wx)
    case first =>
      go_wp2_with (fail)
      go_loopg [4, 5] (64) (fun k v4 v5 wr => ∃ r n : Nat, v4 = .int .i64 (r : Int) ∧ v5 = .int .u64 (n : Int) ∧ r ≤ r1 + 64 ∧ Aside0 (ph2 s k n r = (n2, r2)) ∧ Aside0 (n < 10 * 2 ^ s ∧ 2 ^ s ≤ n * 10 ^ k ∧ r + k = r1 + 64) ∧ w = wr)
      case atStart => exact ⟨r1, n1, rfl, rfl, by omega, ⟨HPE.out⟩, ⟨HN1.out.2.1, two60 hs n1 HN1.out.1, by omega⟩, rfl⟩
      case round =>
        obtain ⟨r, n, rfl, rfl, hr, HR, HNN, rfl⟩ := hrel
        have hnb : n < 11529215046068469760 := by have := HNN.out.1; have := HP.out; omega
        by_cases hq0 : n / 2 ^ s = 0
        · have hb : ((n : Int) / 2 ^ s == 0) = true := by rw [shr_nat, hq0]; rfl
          have hn2s := lt_of_div0 hq0
          have hn60 : n < 1152921504606846976 := by have := HP.out; omega
          have hg : ∃ f, gk = f + 1 := by
            cases gk with
            | zero => have := HNN.out.2.1; rw [Nat.pow_zero, Nat.mul_one] at this; omega
            | succ f => exact ⟨f, rfl⟩
          obtain ⟨f, rfl⟩ := hg
          have HX : Aside0 (ph2 s f (n * 10) (r + 1) = (n2, r2)) := ⟨by have hR := HR.out; rw [ph2, if_pos hq0] at hR; exact hR⟩
          have HN3 : Aside0 (n * 10 < 10 * 2 ^ s ∧ 2 ^ s ≤ n * 10 * 10 ^ f ∧ r + 1 + f = r1 + 64) := ⟨by
            have h3 := HNN.out.2.1
            rw [Nat.pow_succ', ← Nat.mul_assoc] at h3
            have h4 := HNN.out.2.2
            exact ⟨by omega, h3, by omega⟩⟩
          have hw1 : IntKind.u64.wrap ((n : Int) * 10) = ((n * 10 : Nat) : Int) := by rw [IntKind.wrap_u64]; omega
          have hwr : IntKind.i64.wrap ((r : Int) + 1) = ((r + 1 : Nat) : Int) := by rw [IntWalk.i64_in _ (by omega)]; omega
          have hr5 : r + 1 ≤ r1 + 64 := by have := HNN.out.2.2; omega
          clear hn2s
          go_wp2_with (fail)
          go_roundg f
          case measure => omega
          case rel => exact ⟨r + 1, n * 10, by simp, by simp, hr5, HX, HN3, rfl⟩
        · have hb : ((n : Int) / 2 ^ s == 0) = false := by rw [shr_nat, beq_eq_false_iff_ne]; omega
          have hR := HR.out
          rw [ph2_stop s _ n r hq0] at hR
          injection hR with e1 e3
          have E1 := Aside0.mk e1
          have E3 := Aside0.mk e3
          clear e1 e3 hq0
          go_wp2_with (fail)
          go_meet
          case rel => exact ⟨by rw [E3.out], by rw [E1.out], rfl⟩
    case rest =>
      obtain ⟨rfl, rfl, rfl⟩ := hcut
      have HD1 : Aside0 (DX (w.setCell ⟨b, 1, none⟩ (.int .i64 e1)) b g l R e1) := ⟨⟨by rw [hp_here _ _ _ _ _ rfl, HD.out.str]; rfl, by rw [hp_other _ _ _ _ hne]; exact HD.out.row, HD.out.len⟩⟩
      have HK1 : Aside0 (Kept (On2 b g) w (w.setCell ⟨b, 1, none⟩ (.int .i64 e1))) := ⟨(Kept.refl _ w).setCell (p := ⟨b, 1, none⟩) (.inl (.inl rfl)) _⟩
      have hee : e + (1 - (r2 : Int)) = e1 := HE1.out.symm
      go_upto_block 4 with (fail)
      obtain ⟨w1, hw1⟩ : ∃ w1, w1 = w.setCell ⟨b, 1, none⟩ (.int .i64 e1) := ⟨_, rfl⟩
      rw [← hw1] at HD1 HK1 ⊢
      clear hw1 c0 c1 f0 f1 hee
      have hlg1 : w.heap.size ≤ w1.heap.size := HK1.out.size
      go_wp2_with (fail)
      go_loopg [4, 5, 7] (l.length - r2) (fun k v4 v5 v7 wr => ∃ (r n wi : Nat) (X : List Int), k = l.length - r ∧ v4 = .int .i64 (r : Int) ∧ v5 = .int .u64 (n : Int) ∧ v7 = .int .i64 (wi : Int) ∧ r ≤ 1000064 ∧ wi < r ∧ wi ≤ l.length ∧ Aside0 (X.length = l.length) ∧ Aside0 (X.take wi ++ gen s n (X.drop r) = OUT) ∧ Aside0 (DX wr b g X R e1) ∧ Aside0 (Kept (On2 b g) w wr) ∧ Aside0 (n < 10 * 2 ^ s) ∧ Aside0 (∀ c ∈ X.drop r, 48 ≤ c ∧ c ≤ 57))
      case atStart => exact ⟨r2, n2, 0, l, rfl, rfl, rfl, rfl, hr2l, by have := HN2.out; omega, by omega, ⟨rfl⟩, ⟨by rw [HT1.out, HO.out, List.take_zero, List.nil_append]⟩, HD1, HK1, ⟨HN2.out.1⟩, ⟨by rw [HT1.out]; exact HTD.out⟩⟩
      case round =>
        obtain ⟨r, n, wi, X, rfl, rfl, rfl, rfl, hr, hwr1, hwl, HXL, HOO, HDX, HKK, HNN, HDG⟩ := hrel
        obtain ⟨c0, c1, f0, f1⟩ := blk2 HDX.out.str
        have lgb := hp_lt HDX.out.str
        have lgg := hp_lt HDX.out.row
        have hnb : n < 11529215046068469760 := by have := HNN.out; have := HP.out; omega
        obtain ⟨xl, hxl⟩ : ∃ xl, xl = X.length := ⟨_, rfl⟩
        have hxll : xl = l.length := by rw [hxl]; exact HXL.out
        rw [← hxl] at c0
        have HXX := Aside0.mk hxl
        clear hxl
        subst hxll
        by_cases hlt : r < l.length
        · have hrX : r < X.length := by rw [HXL.out]; exact hlt
          have hc := HDX.out.cell r hrX
          have fw : wr.frozen? ⟨g, wi, none⟩ = false := blk_frozen HDX.out.row wi
          have hcw := HDX.out.cell wi (by rw [HXL.out]; omega)
          obtain ⟨y, hy⟩ : ∃ y, y = X.getD wi 0 := ⟨_, rfl⟩
          rw [← hy] at hcw
          clear hy
          obtain ⟨x, hx⟩ : ∃ x, x = X.getD r 0 := ⟨_, rfl⟩
          have hx2 : X[r] = x := by rw [hx, List.getD_eq_getElem?_getD, List.getElem?_eq_getElem hrX]; rfl
          have hdr := List.drop_eq_getElem_cons hrX
          rw [hx2] at hdr
          have hxd : 48 ≤ x ∧ x ≤ 57 := HDG.out x (by rw [hdr]; simp)
          rw [← hx] at hc
          obtain ⟨q, hqq⟩ : ∃ q, q = n / 2 ^ s := ⟨_, rfl⟩
          obtain ⟨m, hmm⟩ : ∃ m, m = n % 2 ^ s := ⟨_, rfl⟩
          have hqv : (n : Int) / 2 ^ s = (q : Int) := by rw [shr_nat, hqq]
          have hmv : Go.bits .and .u64 (n : Int) M = (m : Int) := by rw [HMM.out n hnb, hmm]
          have hq9 : q ≤ 9 := by have := div_lt10 HNN.out; omega
          have hm60 : m < 1152921504606846976 := by have := Nat.mod_lt n HP.out.2; have := HP.out; omega
          have hqw : IntKind.u64.wrap ((q : Int) + 48) = (q : Int) + 48 := by rw [IntKind.wrap_u64]; omega
          have hqw8 : IntKind.u8.wrap ((q : Int) + 48) = (q : Int) + 48 := by rw [IntKind.wrap_u8']; omega
          have hxw : IntKind.u64.wrap x = x := by rw [IntKind.wrap_u64]; omega
          have hw1 : IntKind.u64.wrap ((m : Int) * 10) = (m : Int) * 10 := by rw [IntKind.wrap_u64]; omega
          have hw2 : IntKind.u64.wrap ((m : Int) * 10 + x) = (m : Int) * 10 + x := by rw [IntKind.wrap_u64]; omega
          have hw3 : IntKind.u64.wrap ((m : Int) * 10 + x - 48) = (m : Int) * 10 + x - 48 := by rw [IntKind.wrap_u64]; omega
          have hwr : IntKind.i64.wrap ((r : Int) + 1) = ((r + 1 : Nat) : Int) := by rw [IntWalk.i64_in _ (by omega)]; omega
          have hww : IntKind.i64.wrap ((wi : Int) + 1) = ((wi + 1 : Nat) : Int) := by rw [IntWalk.i64_in _ (by omega)]; omega
          have hwil : wi < l.length := by omega
          have HDX2 := Aside0.mk (HDX.out.set wi (by rw [HXL.out]; exact hwil) ((q : Int) + 48))
          have HKK2 := Aside0.mk (HKK.out.setCell (p := ⟨g, wi, none⟩) (.inl (.inr rfl)) (.int .u8 ((q : Int) + 48)))
          have HN3 : Aside0 (m * 10 + (x - 48).toNat < 10 * 2 ^ s) := ⟨by have := Nat.mod_lt n HP.out.2; omega⟩
          have HOO2 : Aside0 ((X.set wi ((q : Int) + 48)).take (wi + 1) ++ gen s (m * 10 + (x - 48).toNat) ((X.set wi ((q : Int) + 48)).drop (r + 1)) = OUT) := ⟨by
            have h1 := HOO.out
            rw [hdr, gen, ← hqq, ← hmm] at h1
            have hwX : wi < X.length := by rw [HXL.out]; exact hwil
            rw [List.drop_set_of_lt (by omega), List.take_succ_eq_append_getElem (by rw [List.length_set]; exact hwX), List.getElem_set_self, List.take_set_of_le (Nat.le_refl wi), List.append_assoc, ← h1, show (q : Int) + 48 = 48 + (q : Int) by omega]
            rfl⟩
          have HDG2 : Aside0 (∀ c ∈ (X.set wi ((q : Int) + 48)).drop (r + 1), 48 ≤ c ∧ c ≤ 57) := ⟨by
            rw [List.drop_set_of_lt (by omega)]
            intro c hcc
            exact HDG.out c (by rw [hdr]; exact List.mem_cons_of_mem _ hcc)⟩
          have HXL2 : Aside0 ((X.set wi ((q : Int) + 48)).length = l.length) := ⟨by rw [List.length_set]; exact HXL.out⟩
          clear hx hx2 hdr hqq hmm
          go_wp2_with (fail)
          go_roundg (l.length - (r + 1))
          case measure => omega
          case rel => exact ⟨r + 1, m * 10 + (x - 48).toNat, wi + 1, X.set wi ((q : Int) + 48), rfl, by simp, congrArg (Value.int .u64) (by omega), by simp, by omega, by omega, by omega, HXL2, HOO2, HDX2, HKK2, HN3, HDG2⟩
        · have HOO3 : Aside0 (X.take wi ++ gen0 s (s + 1) n = OUT) := ⟨by have h1 := HOO.out; rw [List.drop_eq_nil_of_le (by rw [HXL.out]; omega), gen] at h1; exact h1⟩
          clear HOO HDG hwr1
          go_upto_block 6 with (fail)
          obtain ⟨w2, hw2⟩ : ∃ w2, w2 = wr := ⟨_, rfl⟩
          rw [← hw2] at HDX HKK c0 c1 f0 f1 lgb lgg ⊢
          clear hw2
          go_cut [5, 7] (fun v5 v7 wx => ∃ (n wi f : Nat) (X : List Int), v5 = .int .u64 (n : Int) ∧ v7 = .int .i64 (wi : Int) ∧ wi ≤ l.length ∧ Aside0 (X.length = l.length) ∧ Aside0 (X.take wi ++ gen0 s f n = OUT) ∧ Aside0 (DX wx b g X R e1) ∧ Aside0 (Kept (On2 b g) w wx) ∧ Aside0 (n < 10 * 2 ^ s) ∧ Aside0 (Fin2 s f n))
          case first =>
            clear c0 c1 f0 f1 lgb lgg hnb
            go_wp2_with (fail)
            go_loopg [5, 7] (l.length - wi) (fun k v5 v7 wr => ∃ (n wi f : Nat) (X : List Int), k = l.length - wi ∧ v5 = .int .u64 (n : Int) ∧ v7 = .int .i64 (wi : Int) ∧ wi ≤ l.length ∧ Aside0 (X.length = l.length) ∧ Aside0 (X.take wi ++ gen0 s f n = OUT) ∧ Aside0 (DX wr b g X R e1) ∧ Aside0 (Kept (On2 b g) w wr) ∧ Aside0 (n < 10 * 2 ^ s) ∧ Aside0 (Fin2 s f n))
            case atStart => exact ⟨n, wi, s + 1, X, rfl, rfl, rfl, hwl, HXL, HOO3, HDX, HKK, HNN, ⟨Fin2.start s n⟩⟩
            case round =>
              clear HXL HOO3 HDX HKK HNN HXX
              obtain ⟨n, wi, f, X, rfl, rfl, rfl, hwl, HXL, HOO, HDX, HKK, HNN, HFF⟩ := hrel
              obtain ⟨c0, c1, f0, f1⟩ := blk2 HDX.out.str
              have lgb := hp_lt HDX.out.str
              have lgg := hp_lt HDX.out.row
              have hnb : n < 11529215046068469760 := by have := HNN.out; have := HP.out; omega
              rw [HXL.out] at c0
              by_cases hc : 0 < n ∧ wi < l.length
              · obtain ⟨hn0, hwil⟩ := hc
                obtain ⟨f, rfl⟩ := HFF.out.end hn0
                have hn0i : (0 : Int) < (n : Int) := by omega
                have fw : wr.frozen? ⟨g, wi, none⟩ = false := blk_frozen HDX.out.row wi
                have hcw := HDX.out.cell wi (by rw [HXL.out]; exact hwil)
                obtain ⟨y, hy⟩ : ∃ y, y = X.getD wi 0 := ⟨_, rfl⟩
                rw [← hy] at hcw
                clear hy
                obtain ⟨q, hqq⟩ : ∃ q, q = n / 2 ^ s := ⟨_, rfl⟩
                obtain ⟨m, hmm⟩ : ∃ m, m = n % 2 ^ s := ⟨_, rfl⟩
                have hqv : (n : Int) / 2 ^ s = (q : Int) := by rw [shr_nat, hqq]
                have hmv : Go.bits .and .u64 (n : Int) M = (m : Int) := by rw [HMM.out n hnb, hmm]
                have hq9 : q ≤ 9 := by have := div_lt10 HNN.out; omega
                have hm60 : m < 1152921504606846976 := by have := Nat.mod_lt n HP.out.2; have := HP.out; omega
                have hqw : IntKind.u64.wrap ((q : Int) + 48) = (q : Int) + 48 := by rw [IntKind.wrap_u64]; omega
                have hqw8 : IntKind.u8.wrap ((q : Int) + 48) = (q : Int) + 48 := by rw [IntKind.wrap_u8']; omega
                have hw1 : IntKind.u64.wrap ((m : Int) * 10) = ((m * 10 : Nat) : Int) := by rw [IntKind.wrap_u64]; omega
                have hww : IntKind.i64.wrap ((wi : Int) + 1) = ((wi + 1 : Nat) : Int) := by rw [IntWalk.i64_in _ (by omega)]; omega
                have HDX2 := Aside0.mk (HDX.out.set wi (by rw [HXL.out]; exact hwil) ((q : Int) + 48))
                have HKK2 := Aside0.mk (HKK.out.setCell (p := ⟨g, wi, none⟩) (.inl (.inr rfl)) (.int .u8 ((q : Int) + 48)))
                have HN3 : Aside0 (m * 10 < 10 * 2 ^ s) := ⟨by have := Nat.mod_lt n HP.out.2; omega⟩
                have HF3 : Aside0 (Fin2 s f (m * 10)) := ⟨by rw [hmm]; exact HFF.out.step⟩
                have HOO2 : Aside0 ((X.set wi ((q : Int) + 48)).take (wi + 1) ++ gen0 s f (m * 10) = OUT) := ⟨by
                  have h1 := HOO.out
                  rw [gen0, if_neg (by omega), ← hqq, ← hmm] at h1
                  have hwX : wi < X.length := by rw [HXL.out]; exact hwil
                  rw [List.take_succ_eq_append_getElem (by rw [List.length_set]; exact hwX), List.getElem_set_self, List.take_set_of_le (Nat.le_refl wi), List.append_assoc, ← h1, show (q : Int) + 48 = 48 + (q : Int) by omega]
                  rfl⟩
                have HXL2 : Aside0 ((X.set wi ((q : Int) + 48)).length = l.length) := ⟨by rw [List.length_set]; exact HXL.out⟩
                clear hqq hmm
                go_wp2_with (fail)
                go_roundg (l.length - (wi + 1))
                case measure => omega
                case rel => exact ⟨m * 10, wi + 1, f, X.set wi ((q : Int) + 48), rfl, by simp, by simp, by omega, HXL2, HOO2, HDX2, HKK2, HN3, HF3⟩
              · by_cases hn0 : n = 0
                · subst hn0
                  go_wp2_with (fail)
                  go_meet
                  case rel => exact ⟨0, wi, f, X, rfl, rfl, hwl, HXL, HOO, HDX, HKK, HNN, HFF⟩
                · have hn1 : 0 < n := by omega
                  have hn0i : (0 : Int) < (n : Int) := by omega
                  have hwe : wi = l.length := by omega
                  subst hwe
                  clear hc
                  go_wp2_with (fail)
                  go_meet
                  case rel => exact ⟨n, _, f, X, rfl, rfl, hwl, HXL, HOO, HDX, HKK, HNN, HFF⟩
          case rest =>
            clear HXL HOO3 HDX HKK HNN HXX c0 c1 f0 f1 lgb lgg hnb
            obtain ⟨n, wi, f, X, rfl, rfl, hwl, HXL, HOO, HDX, HKK, HNN, HFF⟩ := hcut
            have hwX : wi ≤ X.length := by rw [HXL.out]; exact hwl
            obtain ⟨R3, hR3⟩ := HDX.out.cut (w' := wc.setCell ⟨b, 0, none⟩ (.slice (some ⟨g, 0, none⟩) wi (X.length + R.length))) (e' := e1) wi hwX (by rw [hp_here _ _ _ _ _ rfl, HDX.out.str]; rfl) (by rw [hp_other _ _ _ _ hne])
            rw [HXL.out] at hR3
            have HDX3 := Aside0.mk hR3
            have HKK3 := Aside0.mk (HKK.out.setCell (p := ⟨b, 0, none⟩) (.inl (.inl rfl)) (.slice (some ⟨g, 0, none⟩) wi (l.length + R.length)))
            obtain ⟨c0, c1, f0, f1⟩ := blk2 HDX.out.str
            rw [HXL.out] at c0
            have lgb := hp_lt HDX.out.str
            clear hR3 HDX HKK HD1 HK1 hwX
            go_upto_block 8 with (fail)
            obtain ⟨w3, hw3⟩ : ∃ w3, w3 = wc.setCell ⟨b, 0, none⟩ (.slice (some ⟨g, 0, none⟩) wi (l.length + R.length)) := ⟨_, rfl⟩
            rw [← hw3] at HDX3 HKK3 ⊢
            clear hw3 c0 c1 f0 f1 lgb
            go_wp2_with (fail)
            go_loopg [5] (f) (fun k v5 wr => ∃ (n g' : Nat) (L : List Int) (R' : List Value), v5 = .int .u64 (n : Int) ∧ Aside0 (g' = g ∨ w.heap.size ≤ g') ∧ Aside0 (L ++ gen0 s k n = OUT) ∧ Aside0 (DX wr b g' L R' e1) ∧ Aside0 (Kept (On2 b g) w wr) ∧ Aside0 (n < 10 * 2 ^ s) ∧ Aside0 (Fin2 s k n))
            case atStart => exact ⟨n, g, _, R3, rfl, ⟨.inl rfl⟩, HOO, HDX3, HKK3, HNN, HFF⟩
            case round =>
              clear HXL HOO HDX3 HKK3 HNN HFF
              obtain ⟨n, g', L, R', rfl, HGG, HOO, HDX, HKK, HNN, HFF⟩ := hrel
              obtain ⟨c0, c1, f0, f1⟩ := blk2 HDX.out.str
              have lgb := hp_lt HDX.out.str
              have hnb : n < 11529215046068469760 := by have := HNN.out; have := HP.out; omega
              by_cases hn0 : n = 0
              · subst hn0
                have HLO : Aside0 (L = OUT) := ⟨by have h1 := HOO.out; rw [gen0_zero, List.append_nil] at h1; exact h1⟩
                have HT := Aside0.mk (trim_c b g' L R' e1 wr HDX.out)
                go_wp2_with (go_at_call 107; refine HT.out.mono ?_; rintro e' w4 ⟨rfl, hk, R4, h4⟩; have HK4 := Aside0.mk hk; have H4 := Aside0.mk h4; clear hk h4)
                refine bodyPost_ret (v := .tuple #[]) (by simp [results, Tryz.results76, go_sem]) rfl ?_
                refine ⟨rfl, HKK.out.trans HK4.out (fun i hi hT => ?_), g', R4, HGG.out, ?_⟩
                · rcases hT with rfl | rfl
                  · exact .inl rfl
                  · rcases HGG.out with h | h
                    · exact .inr h
                    · omega
                · rw [HFIN.out]
                  have h5 := H4.out
                  rw [HLO.out] at h5
                  exact h5
              · have hn1 : 0 < n := by omega
                have hn0i : (0 : Int) < (n : Int) := by omega
                have hk' : ∃ f', gk = f' + 1 := HFF.out.end hn1
                obtain ⟨f', rfl⟩ := hk'
                obtain ⟨q, hqq⟩ : ∃ q, q = n / 2 ^ s := ⟨_, rfl⟩
                obtain ⟨m, hmm⟩ : ∃ m, m = n % 2 ^ s := ⟨_, rfl⟩
                have hqv : (n : Int) / 2 ^ s = (q : Int) := by rw [shr_nat, hqq]
                have hmv : Go.bits .and .u64 (n : Int) M = (m : Int) := by rw [HMM.out n hnb, hmm]
                have hq9 : q ≤ 9 := by have := div_lt10 HNN.out; omega
                have hm60 : m < 1152921504606846976 := by have := Nat.mod_lt n HP.out.2; have := HP.out; omega
                have hqw : IntKind.u64.wrap ((q : Int) + 48) = (q : Int) + 48 := by rw [IntKind.wrap_u64]; omega
                have hqw8 : IntKind.u8.wrap ((q : Int) + 48) = (q : Int) + 48 := by rw [IntKind.wrap_u8']; omega
                have hw1 : IntKind.u64.wrap ((m : Int) * 10) = ((m * 10 : Nat) : Int) := by rw [IntKind.wrap_u64]; omega
                have HN3 : Aside0 (m * 10 < 10 * 2 ^ s) := ⟨by have := Nat.mod_lt n HP.out.2; omega⟩
                have HF3 : Aside0 (Fin2 s f' (m * 10)) := ⟨by rw [hmm]; exact HFF.out.step⟩
                have HOO2 : Aside0 ((L ++ [(q : Int) + 48]) ++ gen0 s f' (m * 10) = OUT) := ⟨by
                  have h1 := HOO.out
                  rw [gen0, if_neg (by omega), ← hqq, ← hmm] at h1
                  rw [List.append_assoc, ← h1, show (q : Int) + 48 = 48 + (q : Int) by omega]
                  rfl⟩
                have HLL : Aside0 (L.length ≤ 80000000) := ⟨by have h1 := HOO.out; have h2 := HOL.out; have h3 := congrArg List.length h1; rw [List.length_append] at h3; omega⟩
                clear hqq hmm
                go_wp2_with (with_reducible refine dx_byte HDX.out rfl _ _ rfl ((q : Int) + 48) rfl rfl HLL.out ?ka)
                case ka =>
                  intro g2 R2 w4 n4 c4 hg2 HD4 HK4 HB4
                  obtain ⟨d0, d1, h0, h1⟩ := blk2 (HB4.out.trans HDX.out.str)
                  have lg4 := hp_lt (HB4.out.trans HDX.out.str)
                  have HG2 : Aside0 (g2 = g ∨ w.heap.size ≤ g2) := ⟨by
                    have := HKK.out.size
                    rcases hg2 with rfl | h
                    · exact HGG.out
                    · right; omega⟩
                  have HK5 : Aside0 (Kept (On2 b g) w (w4.setCell ⟨b, 0, none⟩ (.slice (some ⟨g2, 0, none⟩) n4 c4))) := ⟨HKK.out.trans HK4.out (fun i hi hT => by
                    rcases hT with rfl | rfl
                    · exact .inl rfl
                    · rcases HGG.out with h | h
                      · exact .inr h
                      · omega)⟩
                  obtain ⟨L2, hL2⟩ : ∃ L2, L2 = L ++ [(q : Int) + 48] := ⟨_, rfl⟩
                  rw [← hL2] at HD4 HOO2
                  clear hL2 hg2 HK4 HB4 c0 c1 f0 f1
                  go_wp2_with (fail)
                  go_roundg f'
                  case measure => omega
                  case rel => exact ⟨m * 10, g2, L2, R2, by simp, HG2, HOO2, HD4, HK5, HN3, HF3⟩
end Go.Proofs.YtfnknldbjckgoaaGreatDoor.Sp
end
