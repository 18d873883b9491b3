/-
  CONTRACTS of the package's natural numbers (nat): make, set, norm on memory of the call's own.
-/
import Derived.Test.YtgpgacnnkjiadaaGreatDoorMSpec
import Derived.LaidEqlPtr
import Derived.Lib.Builder
namespace Go.Proofs.YtgpgacnnkjiadaaGreatDoor.Sp
open Go.RowKit Go.Proofs.YtgpgacnnkjiadaaGreatDoorW.PrintWords Go.Proofs.YtgpgacnnkjiadaaGreatDoorW.PrintLast Go.Proofs.YtgpgacnnkjiadaaGreatDoorW.PrintMore Go.Proofs.YtgpgacnnkjiadaaGreatDoor.Dig
set_option linter.unusedVariables false
set_option linter.unusedSimpArgs false

/-- A block of words. -/
def u64s (l : List Int) : Array Value := (l.map (Value.int .u64)).toArray
theorem u64s_size (l : List Int) : (u64s l).size = l.length := by simp [u64s]
theorem u64s_get (l : List Int) (i : Nat) (h : i < l.length) : (u64s l)[i]? = some (.int .u64 (l.getD i 0)) := by
  simp [u64s, List.getD, List.getElem?_eq_getElem h]
theorem u64s_set (l : List Int) (i : Nat) (x : Int) : (u64s l).setIfInBounds i (.int .u64 x) = u64s (l.set i x) := by
  simp [u64s, List.map_set]
theorem u64s_rep (n : Nat) : Array.replicate n (Value.int .u64 0) = u64s (List.replicate n 0) := by
  simp [u64s]
theorem u64s_one (x : Int) : #[Value.int .u64 x] = u64s [x] := by simp [u64s]
/-- A nat of the call's own: the whole block g holds the words m, of which the first n count. -/
structure Nb (w : World) (v : Value) (g : Nat) (m : List Int) (n : Nat) : Prop where
  val : v = .slice (some ⟨g, 0, none⟩) n m.length
  blk : hp w g = some (.cells (u64s m) 67 (0, 0))
  le : n ≤ m.length
  max : m.length ≤ 1000000000000
  ok : okd BW m
theorem Nb.below {w w1 : World} {v : Value} {g : Nat} {m : List Int} {n : Nat} (h : Nb w v g m n) (hb : Below w.heap.size w w1) : Nb w1 v g m n := ⟨h.val, hp_below h.blk hb, h.le, h.max, h.ok⟩
theorem Nb.C {w : World} {v : Value} {g : Nat} {m : List Int} {n : Nat} (h : Nb w v g m n) : Kd.C (Kd.int .u64) w (some ⟨g, 0, none⟩) (m.take n).length (m.take n) := by
  have hl : (m.take n).length = n := by rw [List.length_take, Nat.min_eq_left h.le]
  refine blk_C _ h.blk 0 (by have := h.max; have := h.le; omega) (fun i hi => ?_)
  rw [hl] at hi
  rw [Nat.zero_add, u64s_get m i (by have := h.le; omega)]
  simp [List.getD, hi]
theorem Nb.ws {w : World} {v : Value} {g : Nat} {m : List Int} {n : Nat} (h : Nb w v g m n) : Ws w v (m.take n) := by
  have hl : (m.take n).length = n := by rw [List.length_take, Nat.min_eq_left h.le]
  exact ⟨_, m.length, by rw [hl]; exact h.val, by rw [hl]; exact h.le, h.C, okd_take h.ok n⟩
theorem Nb.wd {w : World} {v : Value} {g : Nat} {m : List Int} {n : Nat} (h : Nb w v g m n) (hc : Cn BW (m.take n)) : Wd w v (ev BW (m.take n)) := by
  obtain ⟨A, c, h1, h2, h3, h4⟩ := h.ws
  exact ⟨A, c, _, h1, h2, h3, hc, rfl⟩
theorem Wd.nil (w : World) : Wd w (.slice none 0 0) 0 := ⟨none, 0, [], rfl, Nat.le_refl _, Kd.C_nil _ _, Cn_nil _, ev_nil _⟩
theorem Ws.nil (w : World) : Ws w (.slice none 0 0) [] := ⟨none, 0, rfl, Nat.le_refl _, Kd.C_nil _ _, okd_nil _⟩

/-! ### make on nil -/
set_option maxHeartbeats 800000 in
set_option maxRecDepth 100000 in
theorem make_nil (n : Int) (h0 : 1 ≤ n) (h1 : n ≤ 100000000000) (w : World) :
    Calls Tryz.prog 31 #[.slice none 0 0, .int .i64 n] w fun e w' => ∃ c : Nat, n.toNat ≤ c ∧ c ≤ n.toNat + 4 ∧ e = .returned (.slice (some ⟨w.heap.size, 0, none⟩) n.toNat c) ∧ w' = w.alloc (.cells (u64s (List.replicate c 0)) 67) := by
  by_cases hn : n = 1
  · subst hn
    have hmk := make_ints 36 67 .u64 8 Tryz.underlying36 infoWord (by omega) 1 1 (by omega) (by omega) (by omega)
    go_enter Tryz.func31, Tryz.ntmps31
    go_wp2
    go_ret
    exact ⟨1, by omega, by omega, rfl, by simp [u64s]⟩
  · have hb : (n == 1) = false := by rw [beq_eq_false_iff_ne]; exact hn
    have hmk := make_ints 36 67 .u64 8 Tryz.underlying36 infoWord (by omega) n (n + 4) (by omega) (by omega) (by omega)
    have hle : decide (n ≤ 0) = false := decide_eq_false (by omega)
    go_enter Tryz.func31, Tryz.ntmps31
    go_wp2
    go_ret
    exact ⟨(n + 4).toNat, by omega, by omega, rfl, by rw [u64s_rep]⟩

/-! ### set on nil -/
/-- What 'set' leaves: nil, or the words in a new block. -/
def SetNil (w : World) (l : List Int) (e : Ending) (w' : World) : Prop :=
  ∃ u, e = .returned u ∧ Below w.heap.size w w' ∧ ((l = [] ∧ u = .slice none 0 0) ∨ (l ≠ [] ∧ ∃ m, Nb w' u w.heap.size m l.length ∧ m.take l.length = l))
set_option maxHeartbeats 800000 in
set_option maxRecDepth 100000 in
theorem set_nil (v : Value) (l : List Int) (w : World) (h : Ws w v l) (hl : l.length ≤ 100000000000) :
    Calls Tryz.prog 64 #[.slice none 0 0, v] w (SetNil w l) := by
  obtain ⟨A, c, rfl, h2, h3, h4⟩ := h
  by_cases h0 : l.length = 0
  · have : l = [] := List.eq_nil_of_length_eq_zero h0
    subst this
    have hcp : ∀ w, (Builtin.copy_ #[36, 36] 3 #[.slice none 0 0, .slice A 0 c]).run Tryz.prog w = .ok (goInt 0) w := fun w => run_copy_none w 36 36 3 67 none A 0 0 0 c Tryz.underlying36 (by kernel_rfl) rfl
    go_enter Tryz.func64, Tryz.ntmps64
    go_wp2
    go_ret
    exact ⟨_, rfl, Below.refl _ _, .inl ⟨rfl, rfl⟩⟩
  · have HC := Aside0.mk h3
    have HO := Aside0.mk h4
    clear h3 h4
    go_enter Tryz.func64, Tryz.ntmps64
    go_wp2_with (fail)
    refine (make_nil _ (by omega) (by omega) _).mono ?_
    rintro e w1 ⟨cc, hc1, hc2, rfl, rfl⟩
    rw [Int.toNat_natCast] at *
    have HB := Aside0.mk (below_alloc (Below.refl w.heap.size w) (.cells (u64s (List.replicate cc 0)) 67))
    go_wp2_with (with_reducible refine wpList_copy_splice rfl _ _ 36 36 rfl 67 Tryz.underlying36 ?k1 (some ⟨w.heap.size, 0, none⟩) A l.length cc l.length c rfl rfl w.heap.size 0 ((List.replicate cc 0).map (Value.int .u64)) 67 ?k2 (l.map (Value.int .u64)) ?k3 ?k4 ?k5 ?k6 w.heap.size w HB.out (Nat.le_refl _) ?k7)
    case k1 => kernel_rfl
    case k2 => exact heap_alloc_new w _
    case k3 => simp
    case k4 =>
      intro _
      have h5 := Kd.C_below HC.out HB.out
      obtain ⟨ad, e, hx⟩ := h5.2.2 (by omega)
      refine ⟨ad, e, fun j q hq => ?_⟩
      obtain ⟨cs, g1, g2, g3⟩ := hx j q hq
      have g5 : cs = [.int .u64 q] := g2
      have := g3 0 (.int .u64 q) (by rw [g5]; rfl)
      simpa [Kd.int, Kd.scalar] using this
    case k5 => simp; try omega
    case k6 => intro v hv; simp at hv; obtain ⟨x, _, rfl⟩ := hv; rfl
    case k7 =>
      intro w2 hw2 hb2
      have hlen : (l ++ List.replicate (cc - l.length) 0).length = cc := by simp; omega
      have HNb := Aside0.mk (show Nb w2 (.slice (some ⟨w.heap.size, 0, none⟩) l.length cc) w.heap.size (l ++ List.replicate (cc - l.length) 0) l.length from
        ⟨by rw [hlen], by
          refine (show hp w2 w.heap.size = _ from hw2.out).trans ?_
          congr 2
          simp [splice, u64s, List.map_append], by rw [hlen]; omega, by rw [hlen]; omega, okd_append.2 ⟨HO.out, okd_replicate _ BW_pos⟩⟩)
      have HB2 := Aside0.mk hb2
      clear hw2 hb2 HB
      go_wp2
      go_ret
      exact ⟨_, rfl, HB2.out, .inr ⟨fun e => h0 (by rw [e]; rfl), _, HNb.out, by simp⟩⟩

/-! ### norm -/
theorem strip_take (l : List Int) (k : Nat) (hk : k < l.length) (h : l.getD k 0 = 0) : strip (l.take (k + 1)) = strip (l.take k) := by
  have : l.take (k + 1) = l.take k ++ [l.getD k 0] := by
    rw [List.take_succ_eq_append_getElem (by omega)]
    simp [List.getD, List.getElem?_eq_getElem hk]
  rw [this, strip_snoc, if_pos h]
theorem strip_stop (l : List Int) (k : Nat) (hk : k < l.length) (h : l.getD k 0 ≠ 0) : strip (l.take (k + 1)) = l.take (k + 1) := by
  have : l.take (k + 1) = l.take k ++ [l.getD k 0] := by
    rw [List.take_succ_eq_append_getElem (by omega)]
    simp [List.getD, List.getElem?_eq_getElem hk]
  rw [this, strip_snoc, if_neg h]
set_option maxHeartbeats 800000 in
set_option maxRecDepth 100000 in
theorem norm_c (A : Option Addr) (c : Nat) (l : List Int) (w : World) (h : Kd.C (Kd.int .u64) w A l.length l) (hlc : l.length ≤ c) (hl : l.length ≤ 1000000000000) :
    Calls Tryz.prog 73 #[.slice A l.length c] w fun e w' => e = .returned (.slice A (strip l).length c) ∧ w = w' := by
  have HC := Aside0.mk h
  clear h
  go_enter Tryz.func73, Tryz.ntmps73
  go_wp2
  go_loop [3] (fun v3 => ∃ i : Int, 0 ≤ i ∧ i ≤ l.length ∧ v3 = .int .i64 i ∧ Aside0 (strip (l.take i.toNat) = strip l)) (fun i => (intOf i).toNat)
  case atStart => exact ⟨l.length, by omega, by omega, rfl, ⟨by rw [Int.toNat_natCast, List.take_length]⟩⟩
  case round =>
    obtain ⟨i, i0, i1, rfl, HS⟩ := hrel
    by_cases hi : 0 < i
    · obtain ⟨ad, e, hx⟩ := Kd.at_int HC.out (i - 1) (by omega) (by omega)
      cases e
      have b1 : i - 1 < l.length := by omega
      have b0 : 0 ≤ i - 1 := by omega
      rw [show (i - 1).toNat = i.toNat - 1 by omega] at hx
      obtain ⟨x, hxx⟩ : ∃ x, x = l.getD (i.toNat - 1) 0 := ⟨_, rfl⟩
      rw [show rd l (i - 1) = x by rw [hxx]; unfold rd; congr 1; omega] at hx
      have e1 : i.toNat = (i.toNat - 1) + 1 := by omega
      by_cases h0 : x = 0
      · have HS2 := Aside0.mk (show strip (l.take (i - 1).toNat) = strip l by rw [← HS.out, show (i - 1).toNat = i.toNat - 1 by omega]; conv => rhs; rw [e1]
                                                                              exact (strip_take l _ (by omega) (by rw [← hxx]; exact h0)).symm)
        have hb : (x == 0) = true := by rw [beq_iff_eq]; exact h0
        clear hxx e1 h0
        go_wp2
        go_round
        case rel => exact ⟨i - 1, by omega, by omega, rfl, HS2⟩
        case measure => simp [intOf]; omega
      · have HS2 := Aside0.mk (show (strip l).length = i.toNat by rw [← HS.out, e1, strip_stop l _ (by omega) (by rw [← hxx]; exact h0), List.length_take]; omega)
        have hb : (x == 0) = false := by rw [beq_eq_false_iff_ne]; exact h0
        clear hxx e1 h0
        go_wp2
        go_ret
        exact ⟨by rw [HS2.out]; rfl, rfl⟩
    · have HS2 := Aside0.mk (show (strip l).length = i.toNat by rw [← HS.out, show i.toNat = 0 by omega]; rfl)
      go_wp2
      go_ret
      exact ⟨by rw [HS2.out]; rfl, rfl⟩

/-! ### pointers compared -/
theorem info_some {t : TypeId} {x : Option Value × Nat × Nat} (h : (Tryz.prog.info? t).map (fun i => (i.zero, i.size, i.bytes)) = some x) : ∃ j, Tryz.prog.info? t = some j ∧ j.size = x.2.1 := by
  obtain ⟨j, h1, h2⟩ := Option.map_eq_some_iff.1 h
  exact ⟨j, h1, by rw [← h2]⟩
theorem neq_same (tp te : TypeId) {x : Option Value × Nat × Nat} (hp : Tryz.prog.underlying tp = some (.pointer te)) (hi : (Tryz.prog.info? te).map (fun i => (i.zero, i.size, i.bytes)) = some x) (a : Addr) (w : World) :
    (binOp .neq tp (.pointer (some a)) (.pointer (some a))).run Tryz.prog w = .ok (.bool false) w := by
  obtain ⟨j, hj, _⟩ := info_some hi
  exact Lib.run_neq_ptr_same w a hp hj
theorem eql_same (tp te : TypeId) {x : Option Value × Nat × Nat} (hp : Tryz.prog.underlying tp = some (.pointer te)) (hi : (Tryz.prog.info? te).map (fun i => (i.zero, i.size, i.bytes)) = some x) (a : Addr) (w : World) :
    (binOp .eql tp (.pointer (some a)) (.pointer (some a))).run Tryz.prog w = .ok (.bool true) w := by
  obtain ⟨j, hj, _⟩ := info_some hi
  exact run_eql_ptr_same w a hp hj
theorem neq_other (tp te : TypeId) {x : Option Value × Nat × Nat} (hp' : Tryz.prog.underlying tp = some (.pointer te)) (hi : (Tryz.prog.info? te).map (fun i => (i.zero, i.size, i.bytes)) = some x) (hsz : x.2.1 ≠ 0) {a b : Addr} {w : World} {ca cb : Array Value} {ta tb : TypeId} (hne : a ≠ b) (ha : hp w a.block = some (.cells ca ta (0, 0))) (hb : hp w b.block = some (.cells cb tb (0, 0))) :
    (binOp .neq tp (.pointer (some a)) (.pointer (some b))).run Tryz.prog w = .ok (.bool true) w := by
  obtain ⟨j, hj, hs⟩ := info_some hi
  have h : ∀ d : Nat, (Op.equalIn (d + 1) tp (.pointer (some a)) (.pointer (some b))).run Tryz.prog w = .ok false w := fun d => by
    simp [Op.equalIn, run_underlying hp', sizeOf, typeInfo, hj, show j.size ≠ 0 by rw [hs]; exact hsz, run_sameAddr_other w hne ha hb]
  simp only [binOp]
  simp [Op.equal, Op.maxDepth, h 9999]
theorem eql_other (tp te : TypeId) {x : Option Value × Nat × Nat} (hp' : Tryz.prog.underlying tp = some (.pointer te)) (hi : (Tryz.prog.info? te).map (fun i => (i.zero, i.size, i.bytes)) = some x) (hsz : x.2.1 ≠ 0) {a b : Addr} {w : World} {ca cb : Array Value} {ta tb : TypeId} (hne : a ≠ b) (ha : hp w a.block = some (.cells ca ta (0, 0))) (hb : hp w b.block = some (.cells cb tb (0, 0))) :
    (binOp .eql tp (.pointer (some a)) (.pointer (some b))).run Tryz.prog w = .ok (.bool false) w := by
  obtain ⟨j, hj, hs⟩ := info_some hi
  exact run_eql_ptr_other w hp' hj (by rw [hs]; exact hsz) hne ha hb
theorem infoInt : (Tryz.prog.info? 38).map (fun i => (i.zero, i.size, i.bytes)) = some (some (.agg #[.bool false, .slice none 0 0]), 2, 32) := by kernel_rfl
end Go.Proofs.YtgpgacnnkjiadaaGreatDoor.Sp
