/-
  MERGED BY PROGRAM (regroup.py): Nat, WordsOf, RatImpl, ImplOf, Kept, Make, Shift, BitsC, AddVW.
-/
import Derived.Test.YtfnknldbjckgoaaGreatDoorZGspec
import Derived.LaidEqlPtr
import Derived.Lib.Builder
import Derived.Test.YtfnknldbjckgoaaGreatDoorZBase
import Derived.Test.YtfnknldbjckgoaaGreatDoorZWLast
import Derived.Test.YtfnknldbjckgoaaGreatDoorZGdig
import Derived.Deep.RegionLaw
import Derived.RegionTactic
import Derived.BigRegion
import Derived.Test.YtfnknldbjckgoaaGreatDoorZShelf
import Derived.Lib.BitFns
/-! ## Nat -/
section
namespace Go.Proofs.YtfnknldbjckgoaaGreatDoor.Sp
open Go.RowKit Go.Proofs.YtfnknldbjckgoaaGreatDoorW.PrintWords Go.Proofs.YtfnknldbjckgoaaGreatDoorW.PrintLast Go.Proofs.YtfnknldbjckgoaaGreatDoorW.PrintMore Go.Proofs.YtfnknldbjckgoaaGreatDoor.Dig
set_option linter.unusedVariables false
set_option linter.unusedSimpArgs false

/-- A block of words. -/
def u64s (l : List Int) : Array Value := (l.map (Value.int .u64)).toArray
theorem u64s_get (l : List Int) (i : Nat) (h : i < l.length) : (u64s l)[i]? = some (.int .u64 (l.getD i 0)) := by
  simp [u64s, List.getD, List.getElem?_eq_getElem h]
theorem u64s_set (l : List Int) (i : Nat) (x : Int) : (u64s l).setIfInBounds i (.int .u64 x) = u64s (l.set i x) := by
  simp [u64s, List.map_set]
theorem u64s_rep (n : Nat) : Array.replicate n (Value.int .u64 0) = u64s (List.replicate n 0) := by
  simp [u64s]
/-- A nat of the call's own: the whole block g holds the words m, of which the first n count. -/
structure Nb (w : World) (v : Value) (g : Nat) (m : List Int) (n : Nat) : Prop where
  val : v = .slice (some ⟨g, 0, none⟩) n m.length
  blk : hp w g = some (.cells (u64s m) 108 (0, 0))
  le : n ≤ m.length
  max : m.length ≤ 1000000000000
  ok : okd BW m
theorem Nb.below {w w1 : World} {v : Value} {g : Nat} {m : List Int} {n : Nat} (h : Nb w v g m n) (hb : Below w.heap.size w w1) : Nb w1 v g m n := ⟨h.val, hp_below h.blk hb, h.le, h.max, h.ok⟩
theorem Nb.C {w : World} {v : Value} {g : Nat} {m : List Int} {n : Nat} (h : Nb w v g m n) : Kd.C (Kd.int .u64) w (some ⟨g, 0, none⟩) (m.take n).length (m.take n) := by
  have hl : (m.take n).length = n := by rw [List.length_take, Nat.min_eq_left h.le]
  refine blk_C _ h.blk 0 (by have := h.max; have := h.le; omega) (fun i hi => ?_)
  rw [hl] at hi
  rw [Nat.zero_add, u64s_get m i (by have := h.le; omega)]
  simp [List.getD, hi]
theorem Nb.ws {w : World} {v : Value} {g : Nat} {m : List Int} {n : Nat} (h : Nb w v g m n) : Ws w v (m.take n) := by
  have hl : (m.take n).length = n := by rw [List.length_take, Nat.min_eq_left h.le]
  exact ⟨_, m.length, by rw [hl]; exact h.val, by rw [hl]; exact h.le, h.C, okd_take h.ok n⟩
theorem Nb.wd {w : World} {v : Value} {g : Nat} {m : List Int} {n : Nat} (h : Nb w v g m n) (hc : Cn BW (m.take n)) : Wd w v (ev BW (m.take n)) := by
  obtain ⟨A, c, h1, h2, h3, h4⟩ := h.ws
  exact ⟨A, c, _, h1, h2, h3, hc, rfl⟩
theorem Wd.nil (w : World) : Wd w (.slice none 0 0) 0 := ⟨none, 0, [], rfl, Nat.le_refl _, Kd.C_nil _ _, Cn_nil _, ev_nil _⟩
theorem Ws.nil (w : World) : Ws w (.slice none 0 0) [] := ⟨none, 0, rfl, Nat.le_refl _, Kd.C_nil _ _, okd_nil _⟩

/-! ### make on nil -/
set_option maxHeartbeats 800000 in
set_option maxRecDepth 100000 in
theorem make_nil (n : Int) (h0 : 1 ≤ n) (h1 : n ≤ 100000000000) (w : World) :
    Calls Tryz.prog 94 #[.slice none 0 0, .int .i64 n] w fun e w' => ∃ c : Nat, n.toNat ≤ c ∧ c ≤ n.toNat + 4 ∧ e = .returned (.slice (some ⟨w.heap.size, 0, none⟩) n.toNat c) ∧ w' = w.alloc (.cells (u64s (List.replicate c 0)) 108) := by
  by_cases hn : n = 1
  · subst hn
    have hmk := make_ints 81 108 .u64 8 Tryz.underlying81 infoWord (by omega) 1 1 (by omega) (by omega) (by omega)
    go_enter Tryz.func94, Tryz.ntmps94
    go_wp2
    go_ret
    exact ⟨1, by omega, by omega, rfl, by simp [u64s]⟩
  · have hb : (n == 1) = false := by rw [beq_eq_false_iff_ne]; exact hn
    have hmk := make_ints 81 108 .u64 8 Tryz.underlying81 infoWord (by omega) n (n + 4) (by omega) (by omega) (by omega)
    have hle : decide (n ≤ 0) = false := decide_eq_false (by omega)
    go_enter Tryz.func94, Tryz.ntmps94
    go_wp2
    go_ret
    exact ⟨(n + 4).toNat, by omega, by omega, rfl, by rw [u64s_rep]⟩

/-! ### set on nil -/
/-- What 'set' leaves: nil, or the words in a new block. -/
def SetNil (w : World) (l : List Int) (e : Ending) (w' : World) : Prop :=
  ∃ u, e = .returned u ∧ Below w.heap.size w w' ∧ ((l = [] ∧ u = .slice none 0 0) ∨ (l ≠ [] ∧ ∃ m, Nb w' u w.heap.size m l.length ∧ m.take l.length = l))
set_option maxHeartbeats 800000 in
set_option maxRecDepth 100000 in
theorem set_nil (v : Value) (l : List Int) (w : World) (h : Ws w v l) (hl : l.length ≤ 100000000000) :
    Calls Tryz.prog 78 #[.slice none 0 0, v] w (SetNil w l) := by
  obtain ⟨A, c, rfl, h2, h3, h4⟩ := h
  by_cases h0 : l.length = 0
  · have : l = [] := List.eq_nil_of_length_eq_zero h0
    subst this
    have hcp : ∀ w, (Builtin.copy_ #[81, 81] 3 #[.slice none 0 0, .slice A 0 c]).run Tryz.prog w = .ok (goInt 0) w := fun w => run_copy_none w 81 81 3 108 none A 0 0 0 c Tryz.underlying81 (by kernel_rfl) rfl
    go_enter Tryz.func78, Tryz.ntmps78
    go_wp2
    go_ret
    exact ⟨_, rfl, Below.refl _ _, .inl ⟨rfl, rfl⟩⟩
  · have HC := Aside0.mk h3
    have HO := Aside0.mk h4
    clear h3 h4
    go_enter Tryz.func78, Tryz.ntmps78
    go_wp2_with (fail)
    refine (make_nil _ (by omega) (by omega) _).mono ?_
    rintro e w1 ⟨cc, hc1, hc2, rfl, rfl⟩
    rw [Int.toNat_natCast] at *
    have HB := Aside0.mk (below_alloc (Below.refl w.heap.size w) (.cells (u64s (List.replicate cc 0)) 108))
    go_wp2_with (with_reducible refine wpList_copy_splice rfl _ _ 81 81 rfl 108 Tryz.underlying81 ?k1 (some ⟨w.heap.size, 0, none⟩) A l.length cc l.length c rfl rfl w.heap.size 0 ((List.replicate cc 0).map (Value.int .u64)) 108 ?k2 (l.map (Value.int .u64)) ?k3 ?k4 ?k5 ?k6 w.heap.size w HB.out (Nat.le_refl _) ?k7)
    case k1 => kernel_rfl
    case k2 => exact heap_alloc_new w _
    case k3 => simp
    case k4 =>
      intro _
      have h5 := Kd.C_below HC.out HB.out
      obtain ⟨ad, e, hx⟩ := h5.2.2 (by omega)
      refine ⟨ad, e, fun j q hq => ?_⟩
      obtain ⟨cs, g1, g2, g3⟩ := hx j q hq
      have g5 : cs = [.int .u64 q] := g2
      have := g3 0 (.int .u64 q) (by rw [g5]; rfl)
      simpa [Kd.int, Kd.scalar] using this
    case k5 => simp; try omega
    case k6 => intro v hv; simp at hv; obtain ⟨x, _, rfl⟩ := hv; rfl
    case k7 =>
      intro w2 hw2 hb2
      have hlen : (l ++ List.replicate (cc - l.length) 0).length = cc := by simp; omega
      have HNb := Aside0.mk (show Nb w2 (.slice (some ⟨w.heap.size, 0, none⟩) l.length cc) w.heap.size (l ++ List.replicate (cc - l.length) 0) l.length from
        ⟨by rw [hlen], by
          refine (show hp w2 w.heap.size = _ from hw2.out).trans ?_
          congr 2
          simp [splice, u64s, List.map_append], by rw [hlen]; omega, by rw [hlen]; omega, okd_append.2 ⟨HO.out, okd_replicate _ BW_pos⟩⟩)
      have HB2 := Aside0.mk hb2
      clear hw2 hb2 HB
      go_wp2
      go_ret
      exact ⟨_, rfl, HB2.out, .inr ⟨fun e => h0 (by rw [e]; rfl), _, HNb.out, by simp⟩⟩

/-! ### norm -/
theorem strip_take (l : List Int) (k : Nat) (hk : k < l.length) (h : l.getD k 0 = 0) : strip (l.take (k + 1)) = strip (l.take k) := by
  have : l.take (k + 1) = l.take k ++ [l.getD k 0] := by
    rw [List.take_succ_eq_append_getElem (by omega)]
    simp [List.getD, List.getElem?_eq_getElem hk]
  rw [this, strip_snoc, if_pos h]
theorem strip_stop (l : List Int) (k : Nat) (hk : k < l.length) (h : l.getD k 0 ≠ 0) : strip (l.take (k + 1)) = l.take (k + 1) := by
  have : l.take (k + 1) = l.take k ++ [l.getD k 0] := by
    rw [List.take_succ_eq_append_getElem (by omega)]
    simp [List.getD, List.getElem?_eq_getElem hk]
  rw [this, strip_snoc, if_neg h]
set_option maxHeartbeats 800000 in
set_option maxRecDepth 100000 in
theorem norm_c (A : Option Addr) (c : Nat) (l : List Int) (w : World) (h : Kd.C (Kd.int .u64) w A l.length l) (hlc : l.length ≤ c) (hl : l.length ≤ 1000000000000) :
    Calls Tryz.prog 96 #[.slice A l.length c] w fun e w' => e = .returned (.slice A (strip l).length c) ∧ w = w' := by
  have HC := Aside0.mk h
  clear h
  go_enter Tryz.func96, Tryz.ntmps96
  go_wp2
  go_loop [3] (fun v3 => ∃ i : Int, 0 ≤ i ∧ i ≤ l.length ∧ v3 = .int .i64 i ∧ Aside0 (strip (l.take i.toNat) = strip l)) (fun i => (intOf i).toNat)
  case atStart => exact ⟨l.length, by omega, by omega, rfl, ⟨by rw [Int.toNat_natCast, List.take_length]⟩⟩
  case round =>
    obtain ⟨i, i0, i1, rfl, HS⟩ := hrel
    by_cases hi : 0 < i
    · obtain ⟨ad, e, hx⟩ := Kd.at_int HC.out (i - 1) (by omega) (by omega)
      cases e
      have b1 : i - 1 < l.length := by omega
      have b0 : 0 ≤ i - 1 := by omega
      rw [show (i - 1).toNat = i.toNat - 1 by omega] at hx
      obtain ⟨x, hxx⟩ : ∃ x, x = l.getD (i.toNat - 1) 0 := ⟨_, rfl⟩
      rw [show rd l (i - 1) = x by rw [hxx]; unfold rd; congr 1; omega] at hx
      have e1 : i.toNat = (i.toNat - 1) + 1 := by omega
      by_cases h0 : x = 0
      · have HS2 := Aside0.mk (show strip (l.take (i - 1).toNat) = strip l by rw [← HS.out, show (i - 1).toNat = i.toNat - 1 by omega]; conv => rhs; rw [e1]
                                                                              exact (strip_take l _ (by omega) (by rw [← hxx]; exact h0)).symm)
        have hb : (x == 0) = true := by rw [beq_iff_eq]; exact h0
        clear hxx e1 h0
        go_wp2
        go_round
        case rel => exact ⟨i - 1, by omega, by omega, rfl, HS2⟩
        case measure => simp [intOf]; omega
      · have HS2 := Aside0.mk (show (strip l).length = i.toNat by rw [← HS.out, e1, strip_stop l _ (by omega) (by rw [← hxx]; exact h0), List.length_take]; omega)
        have hb : (x == 0) = false := by rw [beq_eq_false_iff_ne]; exact h0
        clear hxx e1 h0
        go_wp2
        go_ret
        exact ⟨by rw [HS2.out]; rfl, rfl⟩
    · have HS2 := Aside0.mk (show (strip l).length = i.toNat by rw [← HS.out, show i.toNat = 0 by omega]; rfl)
      go_wp2
      go_ret
      exact ⟨by rw [HS2.out]; rfl, rfl⟩

/-! ### pointers compared -/
theorem info_some {t : TypeId} {x : Option Value × Nat × Nat} (h : (Tryz.prog.info? t).map (fun i => (i.zero, i.size, i.bytes)) = some x) : ∃ j, Tryz.prog.info? t = some j ∧ j.size = x.2.1 := by
  obtain ⟨j, h1, h2⟩ := Option.map_eq_some_iff.1 h
  exact ⟨j, h1, by rw [← h2]⟩
theorem neq_same (tp te : TypeId) {x : Option Value × Nat × Nat} (hp : Tryz.prog.underlying tp = some (.pointer te)) (hi : (Tryz.prog.info? te).map (fun i => (i.zero, i.size, i.bytes)) = some x) (a : Addr) (w : World) :
    (binOp .neq tp (.pointer (some a)) (.pointer (some a))).run Tryz.prog w = .ok (.bool false) w := by
  obtain ⟨j, hj, _⟩ := info_some hi
  exact Lib.run_neq_ptr_same w a hp hj
theorem neq_other (tp te : TypeId) {x : Option Value × Nat × Nat} (hp' : Tryz.prog.underlying tp = some (.pointer te)) (hi : (Tryz.prog.info? te).map (fun i => (i.zero, i.size, i.bytes)) = some x) (hsz : x.2.1 ≠ 0) {a b : Addr} {w : World} {ca cb : Array Value} {ta tb : TypeId} (hne : a ≠ b) (ha : hp w a.block = some (.cells ca ta (0, 0))) (hb : hp w b.block = some (.cells cb tb (0, 0))) :
    (binOp .neq tp (.pointer (some a)) (.pointer (some b))).run Tryz.prog w = .ok (.bool true) w := by
  obtain ⟨j, hj, hs⟩ := info_some hi
  have h : ∀ d : Nat, (Op.equalIn (d + 1) tp (.pointer (some a)) (.pointer (some b))).run Tryz.prog w = .ok false w := fun d => by
    simp [Op.equalIn, run_underlying hp', sizeOf, typeInfo, hj, show j.size ≠ 0 by rw [hs]; exact hsz, run_sameAddr_other w hne ha hb]
  simp only [binOp]
  simp [Op.equal, Op.maxDepth, h 9999]
theorem infoInt : (Tryz.prog.info? 120).map (fun i => (i.zero, i.size, i.bytes)) = some (some (.agg #[.bool false, .slice none 0 0]), 2, 32) := by kernel_rfl
theorem infoFloat : (Tryz.prog.info? 83).map (fun i => (i.zero, i.size, i.bytes)) = some (some (.agg #[.int .u32 0, .int .u8 0, .int .i8 0, .int .u8 0, .bool false, .slice none 0 0, .int .i32 0]), 7, 40) := by kernel_rfl
end Go.Proofs.YtfnknldbjckgoaaGreatDoor.Sp
end

/-! ## WordsOf -/
section
namespace Go.Proofs.YtfnknldbjckgoaaGreatDoor
open Go.RowKit Go.Proofs.YtfnknldbjckgoaaGreatDoorW.PrintWords Go.Proofs.YtfnknldbjckgoaaGreatDoorW.PrintLast Go.Proofs.YtfnknldbjckgoaaGreatDoorW.PrintMore

end Go.Proofs.YtfnknldbjckgoaaGreatDoor
end

/-! ## RatImpl -/
section
namespace Go.Proofs.YtfnknldbjckgoaaGreatDoor.Sp
open Go.RowKit Go.Proofs.YtfnknldbjckgoaaGreatDoorW.PrintWords Go.Proofs.YtfnknldbjckgoaaGreatDoorW.PrintLast Go.Proofs.YtfnknldbjckgoaaGreatDoorW.PrintMore Go.Proofs.YtfnknldbjckgoaaGreatDoor.Dig
set_option linter.unusedVariables false
set_option linter.unusedSimpArgs false

theorem Lim_lenW {l : List Int} (h : Cn BW l) (hl : ev BW l < Lim) : l.length ≤ 25000 := by
  rw [Lim_def, show (100000 : Nat) = 4 * 25000 from rfl, pow16] at hl
  exact Cn_len_le h BW_gt _ hl
theorem Wd.slice {w : World} {v : Value} {n : Int} (h : Wd w v n) : ∃ A m c, v = .slice A m c := by
  obtain ⟨A, c, l, h1, _⟩ := h
  exact ⟨A, _, c, h1⟩
/-! ### RatInt64, RatUint64 -/
end Go.Proofs.YtfnknldbjckgoaaGreatDoor.Sp
end

/-! ## ImplOf -/
section
namespace Go.Proofs.YtfnknldbjckgoaaGreatDoor.Sp
open Go.RowKit Go.Proofs.YtfnknldbjckgoaaGreatDoorW.PrintWords Go.Proofs.YtfnknldbjckgoaaGreatDoorW.PrintLast Go.Proofs.YtfnknldbjckgoaaGreatDoorW.PrintMore Go.Proofs.YtfnknldbjckgoaaGreatDoor.Dig
set_option linter.unusedVariables false
set_option linter.unusedSimpArgs false

/-! ### of -/
/-- An Int in memory (its own block): sign, words. -/
def IntB (w : World) (g : Nat) (neg : Bool) (n : Int) : Prop := ∃ v, hp w g = some (.cells #[.bool neg, v] 120 (0, 0)) ∧ Wd w v n
theorem IntB.below {w w1 : World} {g : Nat} {neg : Bool} {n : Int} (h : IntB w g neg n) (hb : Below w.heap.size w w1) : IntB w1 g neg n := by
  obtain ⟨v, h1, h2⟩ := h
  exact ⟨v, hp_below h1 hb, h2.below hb⟩
theorem C_take {w : World} {k : IntKind} {A : Option Addr} {l : List Int} (h : Kd.C (Kd.int k) w A l.length l) (m : Nat) (hm : m ≤ l.length) : Kd.C (Kd.int k) w A (l.take m).length (l.take m) := by
  obtain ⟨h1, h2, h3⟩ := h
  have hl : (l.take m).length = m := by rw [List.length_take, Nat.min_eq_left hm]
  refine ⟨rfl, by omega, fun h0 => ?_⟩
  obtain ⟨ad, e, hc⟩ := h3 (by omega)
  refine ⟨ad, e, fun j p hj => hc j p ?_⟩
  rw [List.getElem?_take] at hj
  split at hj
  · exact hj
  · cases hj
theorem strip_wd {w : World} {A : Option Addr} {c : Nat} {l : List Int} (h : Kd.C (Kd.int .u64) w A l.length l) (hlc : l.length ≤ c) (hok : okd BW l) : Wd w (.slice A (strip l).length c) (ev BW l) := by
  obtain ⟨s1, s2, k, s3, s4⟩ := strip_cn l hok
  refine ⟨A, c, strip l, rfl, ?_, ?_, s1, s2⟩
  · rw [s4, List.length_take]; omega
  · rw [s4]; exact C_take h k s3
set_option maxHeartbeats 3200000 in
set_option maxRecDepth 100000 in
theorem of_impl_c (neg : Bool) (A : Option Addr) (m c : Nat) (l : List Int) (w : World) (h : Ws w (.slice A m c) l) (hl : l.length ≤ 1000000) :
    Calls Tryz.prog 61 #[.agg #[.bool neg, .slice A m c]] w fun e w' => ∃ g, e = .returned (.pointer (some ⟨g, 0, none⟩)) ∧ w.heap.size ≤ g ∧ IntB w' g (neg && decide (0 < ev BW l)) (ev BW l) ∧ Below w.heap.size w w' := by
  obtain ⟨A', c', e, h2, h3, h4⟩ := h
  injection e with e1 e2 e3
  subst e1 e2 e3
  have hu := Tryz.underlying102
  have hb : Below w.heap.size w (w.alloc (.cells #[.bool neg, .slice A l.length c] 102)) := below_alloc (Below.refl _ _) _
  have HR := Aside0.mk (Kd.C_below h3 hb)
  have HO4 := Aside0.mk h4
  have HLL := Aside0.mk hl
  have HB0 := Aside0.mk hb
  clear h3 h4 hb
  go_enter Tryz.func61, Tryz.ntmps61
  go_wp2_with (fail)
  go_loopw [3, 10] (fun v3 v10 wr => ∃ i : Int, 0 ≤ i ∧ i ≤ l.length ∧ v10 = .int .i64 i ∧ Aside0 (Kd.R (Kd.int .u64) 108 wr (w.heap.size + 1) (fun k => w.heap.size + 1 ≤ k) v3 (l.take i.toNat)) ∧ Aside0 (Below (w.heap.size + 1) (w.alloc (.cells #[.bool neg, .slice A l.length c] 102)) wr)) (fun _ i _ => l.length - (intOf i).toNat)
  case atStart => exact ⟨0, by omega, by omega, rfl, ⟨by simpa using Kd.R_nil _ _ _ _ _⟩, ⟨Below.refl _ _⟩⟩
  case round =>
    obtain ⟨i, i0, i1, rfl, HO, HB⟩ := hrel
    by_cases hlt : i < l.length
    · obtain ⟨ad, e, hx⟩ := Kd.at_int HR.out i i0 hlt
      cases e
      replace hx := (HB.out.cell (p := ad.add i.toNat) (by have := World.block_lt_of_cell? _ _ hx; simpa using this)).trans hx
      have hs : Aside0 (l.take (i + 1).toNat = l.take i.toNat ++ [rd l i]) := by
        constructor
        rw [show (i + 1).toNat = i.toNat + 1 by omega, List.take_succ_eq_append_getElem (by omega)]
        simp [rd, List.getD, List.getElem?_eq_getElem (show i.toNat < l.length by omega)]
      have hlen : (l.take i.toNat).length ≤ 1000000000000 := by have := HLL.out; rw [List.length_take]; omega
      have HL := Aside0.mk hlen
      have hsz : w.heap.size + 1 ≤ wr.heap.size := by have := HB.out.size; simpa using this
      have HSZ := Aside0.mk hsz
      clear hlen hsz
      go_wp2_with (first | ((with_reducible refine gate_builtin (b := .append) (xs := #[.tmp 14, .tmp 16]) rfl ?_); at_builtin; go_must (refine Kd.R_append (Kd.int .u64) (w0 := w.alloc (.cells #[.bool neg, .slice (some ad) l.length c] 102)) (w.heap.size + 1) rfl (.tmp 14) (.tmp 16) 80 108 (.int .u64 0) 8 rfl Tryz.underlying80 infoWord rfl (by decide) (by omega) u3 (l.take i.toNat) (rd l i) [.int .u64 (rd l i)] (fun k_ => (w.heap.size + 1 ≤ k_)) (fun _ => False) rfl rfl ?aP (fun _ hk => hk.elim) ?aF ?aO ?aB ?aS ?aL ?_; (case aP => exact rfl); (case aB => first | exact HB.out | exact (Below.alloc HB.out HSZ.out _) | fail); (case aF => exact (fun k_ hk => (Nat.le_trans HSZ.out (by first | omega | (simp at hk; omega) | fail)))); (case aO => first | exact HO.out | exact (Kd.R_alloc HO.out _) | fail); (case aS => first | exact HSZ.out | (have := HSZ.out; simp; omega) | fail); (case aL => have := HL.out; omega); intro v1 w1 ho hb hg hat; rw [← hs.out] at ho; have n0_ := Aside0.mk (hb); have n1_ := Aside0.mk (ho); clear HB; clear HO; have HB := n0_; have HO := n1_; clear n0_ n1_; clear ho hb hg hat)))
      go_roundw
      case rel => first | exact ⟨i + 1, by omega, by omega, rfl, ⟨HO.out⟩, ⟨HB.out⟩⟩ | ((repeat apply Exists.intro); exact ⟨⟨i + 1, by omega, by omega, rfl, ⟨HO.out⟩, ⟨HB.out⟩⟩, rfl⟩) | fail
      case measure => simp [intOf]; omega
    · have hi : i.toNat = l.length := by omega
      have ho := HO.out
      rw [hi, List.take_length] at ho
      obtain ⟨A3, c3, e3, q3, r3⟩ := Kd.R_reads ho
      subst e3
      have hx0 := HB.out.cell (p := ⟨w.heap.size, 0, none⟩) (by simp)
      have hx1 := hx0.trans (show _ = some (.bool neg) from by go_simp)
      have HSZ := Aside0.mk (show w.heap.size + 1 ≤ wr.heap.size by have := HB.out.size; simpa using this)
      have HBw : Aside0 (Below w.heap.size w wr) := ⟨HB0.out.trans (HB.out.mono (by omega))⟩
      have HR3 := Aside0.mk r3
      have HLC := Aside0.mk q3
      have HS := Aside0.mk (show Wd wr (.slice A3 (strip l).length c3) (ev BW l) from strip_wd r3 q3 HO4.out)
      clear hx0 HO ho r3 q3 HB0 HB HR
      go_wp2_with ((fail_if_success go_at_call 96); go_in)
      refine (norm_c A3 c3 l _ (Kd.C_below HR3.out (below_alloc (Below.refl _ _) _)) HLC.out (by have := HLL.out; omega)).mono ?_
      rintro e w1 ⟨rfl, rfl⟩
      have hsz : w.heap.size < wr.heap.size := HSZ.out
      have hpos : decide (0 < (strip l).length) = decide (0 < ev BW l) := by
        obtain ⟨s1, s2, _⟩ := strip_cn l HO4.out
        rw [← s2]
        by_cases h0 : strip l = []
        · rw [h0, ev_nil]; rfl
        · rw [decide_eq_true (List.length_pos_iff.2 h0), decide_eq_true (Cn_pos s1 BW_pos h0)]
      have HPOS := Aside0.mk hpos
      obtain ⟨n, hn⟩ : ∃ n, n = (strip l).length := ⟨_, rfl⟩
      rw [← hn] at HS HPOS ⊢
      clear hpos hn HR3 HLC HO4
      cases neg with
      | false =>
        go_wp2_with ((fail_if_success go_at_call 96); go_in)
        go_ret
        exact ⟨_, rfl, by omega, ⟨_, (by simp (disch := first | omega | (simp; omega) | (simp; done) | fail) [hp_new, hp_old, hp_here, hp_other, setObj_cells, hp_drew, hp_drewN]), HS.out.below (below_alloc (Below.refl _ _) _)⟩, below_step HBw.out (below_alloc (Below.refl _ _) _)⟩
      | true =>
        have hq := neq_same 99 120 Tryz.underlying99 infoInt
        by_cases h0 : 0 < n
        · have h1 : decide (0 < n) = true := decide_eq_true h0
          have HPP := Aside0.mk (HPOS.out.symm.trans h1)
          go_wp2_with ((fail_if_success go_at_call 96); go_in)
          go_ret
          exact ⟨_, rfl, by omega, ⟨_, by rw [HPP.out]; exact (by simp (disch := first | omega | (simp; omega) | (simp; done) | fail) [hp_new, hp_old, hp_here, hp_other, setObj_cells, hp_drew, hp_drewN]), HS.out.below (below_alloc (Below.refl _ _) _)⟩, below_step HBw.out (below_alloc (Below.refl _ _) _)⟩
        · have h1 : decide (0 < n) = false := decide_eq_false h0
          have HPP := Aside0.mk (HPOS.out.symm.trans h1)
          go_wp2_with ((fail_if_success go_at_call 96); go_in)
          go_ret
          exact ⟨_, rfl, by omega, ⟨_, by rw [HPP.out]; exact (by simp (disch := first | omega | (simp; omega) | (simp; done) | fail) [hp_new, hp_old, hp_here, hp_other, setObj_cells, hp_drew, hp_drewN]), HS.out.below (below_alloc (Below.refl _ _) _)⟩, below_step HBw.out (below_alloc (Below.refl _ _) _)⟩

/-! ### Int.Set, Rat.SetInt -/
theorem set_nil_wd (v : Value) (n : Int) (w : World) (h : Wd w v n) (hn : n < Lim) :
    Calls Tryz.prog 78 #[.slice none 0 0, v] w fun e w' => ∃ A m c, e = .returned (.slice A m c) ∧ Wd w' (.slice A m c) n ∧ Below w.heap.size w w' := by
  obtain ⟨A, c, l, e, h2, h3, h4, h5⟩ := h
  have := Lim_lenW h4 (by rw [h5]; exact hn)
  refine (set_nil v l w ⟨A, c, e, h2, h3, h4.ok⟩ (by omega)).mono ?_
  rintro e' w' ⟨u, rfl, hb, hu⟩
  rcases hu with ⟨rfl, rfl⟩ | ⟨_, m, hm, he⟩
  · rw [ev_nil] at h5
    subst h5
    exact ⟨none, 0, 0, rfl, Wd.nil _, hb⟩
  · have h6 := hm.wd (by rw [he]; exact h4)
    rw [he, h5] at h6
    rw [hm.val] at h6 ⊢
    exact ⟨_, _, _, rfl, h6, hb⟩
theorem words_Lim {l : List Int} (h : okd BW l) (hl : l.length ≤ 25000) : ev BW l < Lim := by
  have h5 := ev_lt h BW_pos
  have h6 : BW ^ l.length ≤ BW ^ 25000 := pow_mono BW_pos hl
  have h7 : (BW : Int) ^ 25000 = Lim := by
    rw [Lim_def, BW_BH, ← Int.pow_mul]
  omega
end Go.Proofs.YtfnknldbjckgoaaGreatDoor.Sp
end

/-! ## Kept -/
section
namespace Go.Proofs.YtfnknldbjckgoaaGreatDoor.Sp
open Go.RowKit Go.Proofs.YtfnknldbjckgoaaGreatDoorW.PrintWords Go.Proofs.YtfnknldbjckgoaaGreatDoorW.PrintLast Go.Proofs.YtfnknldbjckgoaaGreatDoorW.PrintMore Go.Proofs.YtfnknldbjckgoaaGreatDoor.Dig
set_option linter.unusedVariables false
set_option linter.unusedSimpArgs false

/-- All blocks that there were, but those of S, are as they were. -/
structure Kept (S : Nat → Prop) (w w' : World) : Prop where
  os : w'.os = w.os
  tape : w'.tape = w.tape
  output : w'.output = w.output
  size : w.heap.size ≤ w'.heap.size
  block : ∀ k, k < w.heap.size → ¬ S k → w'.heap[k]? = w.heap[k]?
/-- One block; two. -/
def On (g : Nat) : Nat → Prop := fun k => k = g
def On2 (g b : Nat) : Nat → Prop := fun k => k = g ∨ k = b
theorem Kept.refl (S : Nat → Prop) (w : World) : Kept S w w := ⟨rfl, rfl, rfl, Nat.le_refl _, fun _ _ _ => rfl⟩
theorem Kept.trans {S T : Nat → Prop} {a b c : World} (h : Kept S a b) (k : Kept T b c) (hT : ∀ i, i < a.heap.size → T i → S i) : Kept S a c :=
  ⟨k.os.trans h.os, k.tape.trans h.tape, k.output.trans h.output, Nat.le_trans h.size k.size, fun i hi hS => (k.block i (Nat.lt_of_lt_of_le hi h.size) (fun ht => hS (hT i hi ht))).trans (h.block i hi hS)⟩
theorem Kept.then {S : Nat → Prop} {a b c : World} (h : Kept S a b) (k : Kept S b c) : Kept S a c := h.trans k (fun _ _ h => h)
theorem Kept.mono {S T : Nat → Prop} {a b : World} (h : Kept S a b) (hST : ∀ i, i < a.heap.size → S i → T i) : Kept T a b := ⟨h.os, h.tape, h.output, h.size, fun i hi hT => h.block i hi (fun hs => hT (hST i hi hs))⟩
theorem Kept.of_below {S : Nat → Prop} {a b : World} (h : Below a.heap.size a b) : Kept S a b := ⟨h.os, h.tape, h.output, h.size, fun i hi _ => h.block i hi⟩
theorem Kept.below {S : Nat → Prop} {a b : World} {B : Nat} (h : Kept S a b) (hS : ∀ i, S i → B ≤ i) (hB : B ≤ a.heap.size) : Below B a b := ⟨h.os, h.tape, h.output, h.size, fun i hi => h.block i (by omega) (fun hs => by have := hS i hs; omega)⟩
theorem Kept.drew {S : Nat → Prop} {a w : World} (h : Kept S a w) : Kept S a w.drew := ⟨h.os, h.tape, h.output, h.size, h.block⟩
theorem Kept.alloc {S : Nat → Prop} {a w : World} (h : Kept S a w) (o : Obj) : Kept S a (w.alloc o) :=
  h.trans (T := fun _ => False) (Kept.of_below (below_alloc (Below.refl _ _) _)) (fun _ _ h => h.elim)
theorem Kept.setCell {S : Nat → Prop} {a w : World} (h : Kept S a w) {p : Addr} (hp : S p.block ∨ a.heap.size ≤ p.block) (u : Value) : Kept S a (w.setCell p u) :=
  ⟨h.os, h.tape, h.output, by simpa [World.setCell] using h.size, fun k hk hS => by
    rw [Below.heap_setCell _ _ _ _ (by
      intro e; subst e
      rcases hp with hp | hp
      · exact hS hp
      · omega)]
    exact h.block k hk hS⟩
theorem Kept.setRow {S : Nat → Prop} {a w : World} (h : Kept S a w) {g : Nat} (hp : S g ∨ a.heap.size ≤ g) (cs : Array Value) : Kept S a (w.setRow g cs) :=
  ⟨h.os, h.tape, h.output, by simpa [World.setRow] using h.size, fun k hk hS => by
    rw [setRow_other w g k cs (by
      intro e; subst e
      rcases hp with hp | hp
      · exact hS hp
      · omega)]
    exact h.block k hk hS⟩
theorem hp_kept {S : Nat → Prop} {w w1 : World} {k : Nat} {o : Obj} (h : hp w k = some o) (hk : Kept S w w1) (hS : ¬ S k) : hp w1 k = some o := (hk.block k (hp_lt h) hS).trans h
theorem Kept.cell {S : Nat → Prop} {w w' : World} (h : Kept S w w') {p : Addr} {v : Value} (hv : w.cell? p = some v) (hS : ¬ S p.block) : w'.cell? p = some v := by
  rw [World.cell?_of_block (w := w) (h.block p.block (World.block_lt_of_cell? w _ hv) hS)]
  exact hv
theorem C_kept {S : Nat → Prop} {w w' : World} {k : IntKind} {a : Addr} {l : List Int} (hk : Kept S w w') (h : Kd.C (Kd.int k) w (some a) l.length l) (hS : 0 < l.length → ¬ S a.block) : Kd.C (Kd.int k) w' (some a) l.length l := by
  obtain ⟨h1, h2, h3⟩ := h
  refine ⟨h1, h2, fun h0 => ?_⟩
  obtain ⟨ad, e, hc⟩ := h3 h0
  refine ⟨ad, e, fun j p hj => ?_⟩
  obtain ⟨cs, g1, g2, g3⟩ := hc j p hj
  refine ⟨cs, g1, g2, fun i u hu => hk.cell (g3 i u hu) ?_⟩
  cases e
  rw [show (a.add (j * (Kd.int k).sz + i)).block = a.block from by unfold Addr.add; split <;> rfl]
  exact hS h0
/-- Cell j of a row that is read. -/
theorem C_at {w : World} {k : IntKind} {a : Addr} {l : List Int} (h : Kd.C (Kd.int k) w (some a) l.length l) (j : Nat) (hj : j < l.length) : w.cell? (a.add j) = some (.int k (l.getD j 0)) := by
  obtain ⟨ad, e, hx⟩ := Kd.at_int h (j : Int) (by omega) (by omega)
  cases e
  exact hx
theorem addr_add (a : Addr) (i m : Nat) : (a.add i).add m = a.add (i + m) := by
  unfold Addr.add
  by_cases h : i = 0
  · subst h
    simp
  · by_cases h2 : m = 0
    · subst h2
      simp [h]
    · simp [h, h2, Nat.add_assoc]
theorem C_sub {w : World} {k : IntKind} {ad : Addr} {l : List Int} (h : Kd.C (Kd.int k) w (some ad) l.length l) (i n : Nat) (hn : i + n ≤ l.length) : Kd.C (Kd.int k) w (some (ad.add i)) ((l.drop i).take n).length ((l.drop i).take n) := by
  obtain ⟨h1, h2, h3⟩ := h
  refine ⟨rfl, by simp; omega, fun h0 => ?_⟩
  have hl : ((l.drop i).take n).length = n := by simp; omega
  obtain ⟨ad', e, hc⟩ := h3 (by omega)
  cases e
  refine ⟨_, rfl, fun j p hj => ?_⟩
  have hj' : l[i + j]? = some p := by
    rw [List.getElem?_take] at hj
    split at hj
    · rw [List.getElem?_drop] at hj
      exact hj
    · cases hj
  obtain ⟨cs, g1, g2, g3⟩ := hc (i + j) p hj'
  refine ⟨cs, g1, g2, fun t u ht => ?_⟩
  have := g3 t u ht
  have e1 : (Kd.int k).sz = 1 := rfl
  rw [e1] at this ⊢
  rw [← this]
  congr 1
  rw [addr_add]
  congr 1
  omega
theorem add_spot (b o j : Nat) : (⟨b, o, none⟩ : Addr).add j = ⟨b, o + j, none⟩ := by
  unfold Addr.add
  split <;> simp_all

/-! ### copy into a row that is known whole, from wherever (the row itself too): all is read before anything is written -/
/-- The row behind a copy (a name of its own, so that the walk leaves it standing). -/
def laid {α : Type} (L : List α) (off : Nat) (cs : List α) : List α := L.take off ++ (cs ++ L.drop (off + cs.length))
theorem copy_world {P : Program} (w : World) (dT sT ty elem : TypeId) (hu : P.underlying dT = some (.slice elem)) (hsz : (P.info? elem).map (·.size) = some 1) (dp sp : Option Addr) (dLen dCap sLen sCap : Nat) (g off : Nat) (cur : List Value) (t : TypeId) (hg : w.heap[g]? = some (.cells cur.toArray t (0, 0))) (cs : List Value) (hn : cs.length = Nat.min sLen dLen)
    (hpos : 0 < cs.length → dp = some ⟨g, off, none⟩ ∧ ∃ ad, sp = some ad ∧ ∀ j v, cs[j]? = some v → w.cell? (ad.add j) = some v) (hfit : off + cs.length ≤ cur.length) (h1 : ∀ v ∈ cs, v.oneCell' = true) :
    ∃ w', (Builtin.copy_ #[dT, sT] ty #[.slice dp dLen dCap, .slice sp sLen sCap]).run P w = .ok (goInt cs.length) w' ∧ w'.heap[g]? = some (.cells (laid cur off cs).toArray t (0, 0)) ∧ Kept (On g) w w' := by
  by_cases h0 : cs.length = 0
  · obtain rfl : cs = [] := List.eq_nil_of_length_eq_zero h0
    exact ⟨w, run_copy_none (P := P) w dT sT ty elem dp sp dLen dCap sLen sCap hu hsz (by simpa using hn.symm), by simpa [laid] using hg, Kept.refl _ _⟩
  · obtain ⟨rfl, ad, rfl, hsrc⟩ := hpos (by omega)
    exact ⟨_, run_copy_row (P := P) w dT sT ty elem g off dLen dCap ad sLen sCap cur.toArray t cs hu hsz hg hn hsrc (by simpa using hfit) h1, by simpa [laid] using setRow_heap w g _ _ t _ hg, (Kept.refl (On g) w).setRow (.inl rfl) _⟩
theorem wpList_copy_kept {P : Program} {w : World} {ops : Array Oper} {rest : List Oper} {o : Oper} {a : Act} {Q : Exit → Act → World → Prop} (hgd : o.guard = none) (d s : Operand) (dT sT : TypeId)
    (ho : o.op = .call { callee := .builtin .copy, args := #[d, s], argTypes := #[dT, sT] }) (elem : TypeId) (hu : P.underlying dT = some (.slice elem)) (hsz : (P.info? elem).map (·.size) = some 1)
    (dp sp : Option Addr) (dLen dCap sLen sCap : Nat) (hd : a.eval d = .slice dp dLen dCap) (hs : a.eval s = .slice sp sLen sCap)
    (g off : Nat) (cur : List Value) (t : TypeId) (hg : w.heap[g]? = some (.cells cur.toArray t (0, 0))) (cs : List Value) (hn : cs.length = Nat.min sLen dLen)
    (hpos : 0 < cs.length → dp = some ⟨g, off, none⟩ ∧ ∃ ad, sp = some ad ∧ ∀ j v, cs[j]? = some v → w.cell? (ad.add j) = some v) (hfit : off + cs.length ≤ cur.length) (h1 : ∀ v ∈ cs, v.oneCell' = true)
    (h : ∀ w', Hid (w'.heap[g]? = some (.cells (laid cur off cs).toArray t (0, 0))) → Aside0 (Kept (On g) w w') → wpList P ops Q rest (a.put o.dst (goInt cs.length)) w') :
    wpList P ops Q (o :: rest) a w := by
  obtain ⟨w', hrun, h2, h3⟩ := copy_world (P := P) w dT sT o.type elem hu hsz dp sp dLen dCap sLen sCap g off cur t hg cs hn hpos hfit h1
  refine wpList_plain hgd fun K hK => ?_
  unfold Oper.wp
  simp [execOp, ho, resolve, invoke, builtin, hd, hs, hrun, Result.andThen]
  exact hK _ _ (h w' h2 ⟨h3⟩)
theorem step_copy_kept {P : Program} {ops : Array Oper} {o : Oper} {a : Act} {w : World} {K : Act → World → Prop} {Q : Exit → Act → World → Prop} {F : Prop} (hgd : o.guard = none) (d s : Operand) (dT sT : TypeId)
    (ho : o.op = .call { callee := .builtin .copy, args := #[d, s], argTypes := #[dT, sT] }) (elem : TypeId) (hu : P.underlying dT = some (.slice elem)) (hsz : (P.info? elem).map (·.size) = some 1)
    (dp sp : Option Addr) (dLen dCap sLen sCap : Nat) (hd : a.eval d = .slice dp dLen dCap) (hs : a.eval s = .slice sp sLen sCap)
    (g off : Nat) (cur : List Value) (t : TypeId) (hg : w.heap[g]? = some (.cells cur.toArray t (0, 0))) (cs : List Value) (hn : cs.length = Nat.min sLen dLen)
    (hpos : 0 < cs.length → dp = some ⟨g, off, none⟩ ∧ ∃ ad, sp = some ad ∧ ∀ j v, cs[j]? = some v → w.cell? (ad.add j) = some v) (hfit : off + cs.length ≤ cur.length) (h1 : ∀ v ∈ cs, v.oneCell' = true)
    (h : ∀ w', Hid (w'.heap[g]? = some (.cells (laid cur off cs).toArray t (0, 0))) → Aside0 (Kept (On g) w w') → K (a.put o.dst (goInt cs.length)) w') :
    if Region.wanted o (yielded ops a.tmps) = true then Oper.wp P o a w K Q else F := by
  have hw : Region.wanted o (yielded ops a.tmps) = true := by simp [Region.wanted, hgd]
  obtain ⟨w', hrun, h2, h3⟩ := copy_world (P := P) w dT sT o.type elem hu hsz dp sp dLen dCap sLen sCap g off cur t hg cs hn hpos hfit h1
  rw [if_pos hw]
  unfold Oper.wp
  simp [execOp, ho, resolve, invoke, builtin, hd, hs, hrun, Result.andThen]
  exact h w' h2 ⟨h3⟩
/-- The cells of a row of words that are copied. -/
theorem copy_src {w : World} {a : Addr} {l : List Int} (h : Kd.C (Kd.int .u64) w (some a) l.length l) (j : Nat) (v : Value) (hv : (l.map (Value.int .u64))[j]? = some v) : w.cell? (a.add j) = some v := by
  rw [List.getElem?_map] at hv
  cases e : l[j]? with
  | none => rw [e] at hv; cases hv
  | some x =>
    rw [e] at hv
    have hj := (List.getElem?_eq_some_iff.1 e).1
    have := C_at h j hj
    rw [List.getD_eq_getElem?_getD, e] at this
    rw [this]
    exact hv
theorem copy_one {l : List Int} (v : Value) (hv : v ∈ l.map (Value.int .u64)) : v.oneCell' = true := by
  simp at hv
  obtain ⟨x, _, rfl⟩ := hv
  rfl
theorem laid_u64 (Z : List Int) (off : Nat) (l : List Int) : (laid (Z.map (Value.int .u64)) off (l.map (Value.int .u64))).toArray = u64s (laid Z off l) := by
  unfold laid u64s
  simp [List.map_append, List.map_take, List.map_drop]
end Go.Proofs.YtfnknldbjckgoaaGreatDoor.Sp
end

/-! ## Make -/
section
namespace Go.Proofs.YtfnknldbjckgoaaGreatDoor.Sp
open Go.RowKit Go.Proofs.YtfnknldbjckgoaaGreatDoorW.PrintWords Go.Proofs.YtfnknldbjckgoaaGreatDoorW.PrintLast Go.Proofs.YtfnknldbjckgoaaGreatDoorW.PrintMore Go.Proofs.YtfnknldbjckgoaaGreatDoor.Dig
set_option linter.unusedVariables false
set_option linter.unusedSimpArgs false

/-- A destination: nil, or a whole block of words in S. -/
def Dst (w : World) (z : Value) (S : Nat → Prop) : Prop := z = .slice none 0 0 ∨ ∃ mz nz Z, z = .slice (some ⟨mz, 0, none⟩) nz Z.length ∧ hp w mz = some (.cells (u64s Z) 108 (0, 0)) ∧ okd BW Z ∧ S mz ∧ Z.length ≤ 1000000 ∧ nz ≤ Z.length
theorem Dst.nil (w : World) (S : Nat → Prop) : Dst w (.slice none 0 0) S := .inl rfl
theorem Dst.kept {w w' : World} {z : Value} {S T : Nat → Prop} (h : Dst w z S) (hk : Kept T w w') (hT : ∀ i, S i → ¬ T i) : Dst w' z S := by
  rcases h with h | ⟨mz, nz, Z, h1, h2, h3, h4, h5⟩
  · exact .inl h
  · exact .inr ⟨mz, nz, Z, h1, hp_kept h2 hk (hT mz h4), h3, h4, h5⟩
theorem Dst.set {w : World} {z : Value} {S : Nat → Prop} (h : Dst w z S) {p : Addr} (hp : ¬ S p.block) (u : Value) : Dst (w.setCell p u) z S := by
  rcases h with h | ⟨mz, nz, Z, h1, h2, h3, h4, h5⟩
  · exact .inl h
  · exact .inr ⟨mz, nz, Z, h1, by rw [hp_other _ _ _ _ (fun e => hp (by rw [e]; exact h4))]; exact h2, h3, h4, h5⟩
/-- What 'make' leaves. -/
def MakePost (w : World) (S : Nat → Prop) (n : Nat) (e : Ending) (w' : World) : Prop :=
  ∃ mb Z, e = .returned (.slice (some ⟨mb, 0, none⟩) n Z.length) ∧ n ≤ Z.length ∧ Z.length ≤ 1000000 ∧ (S mb ∨ mb = w.heap.size) ∧ hp w' mb = some (.cells (u64s Z) 108 (0, 0)) ∧ okd BW Z ∧ Kept S w w'
set_option maxHeartbeats 1600000 in
set_option maxRecDepth 100000 in
theorem make_c (z : Value) (S : Nat → Prop) (n : Nat) (w : World) (h : Dst w z S) (h1 : 1 ≤ n) (h2 : n ≤ 900000) :
    Calls Tryz.prog 94 #[z, .int .i64 (n : Int)] w (MakePost w S n) := by
  rcases h with rfl | ⟨mz, nz, Z, rfl, hz, hok, hS, hmax, hnz⟩
  · refine (make_nil (n : Int) (by omega) (by omega) w).mono ?_
    rintro e w' ⟨c, hc1, hc2, rfl, rfl⟩
    rw [Int.toNat_natCast] at *
    refine ⟨w.heap.size, List.replicate c 0, by simp, by simp; omega, by simp; omega, .inr rfl, hp_new _ _ _ rfl, okd_replicate _ BW_pos, (Kept.refl _ _).alloc _⟩
  · by_cases hle : n ≤ Z.length
    · have hle2 : decide (n ≤ Z.length) = true := decide_eq_true hle
      have HZ := Aside0.mk hz
      have HO := Aside0.mk hok
      have HS := Aside0.mk hS
      clear hz hok hS
      go_enter Tryz.func94, Tryz.ntmps94
      go_wp2_with (fail)
      go_ret
      exact ⟨mz, Z, rfl, hle, hmax, .inl HS.out, HZ.out, HO.out, Kept.refl _ _⟩
    · have hle2 : decide (n ≤ Z.length) = false := decide_eq_false hle
      by_cases hn : n = 1
      · subst hn
        have hmk := make_ints 81 108 .u64 8 Tryz.underlying81 infoWord (by omega) 1 1 (by omega) (by omega) (by omega)
        clear hz hok hS
        go_enter Tryz.func94, Tryz.ntmps94
        go_wp2
        go_ret
        exact ⟨w.heap.size, [0], rfl, by simp, by simp, .inr rfl, hp_new _ _ _ rfl, okd_replicate 1 BW_pos, (Kept.refl _ _).alloc _⟩
      · have hb : ((n : Int) == 1) = false := by rw [beq_eq_false_iff_ne]; omega
        have hmk := make_ints 81 108 .u64 8 Tryz.underlying81 infoWord (by omega) (n : Int) ((n : Int) + 4) (by omega) (by omega) (by omega)
        clear hz hok hS
        go_enter Tryz.func94, Tryz.ntmps94
        go_wp2
        go_ret
        have e1 : ((n : Int) + 4).toNat = n + 4 := by omega
        refine ⟨w.heap.size, List.replicate (n + 4) 0, ?_, by simp, by simp; omega, .inr rfl, by rw [hp_new _ _ _ rfl, ← u64s_rep], okd_replicate _ BW_pos, (Kept.refl _ _).alloc _⟩
        simp [e1]
/-- What 'set' leaves: the words, at the head of a block of S or of a new one. -/
def SetPostW (w : World) (S : Nat → Prop) (L : List Int) (e : Ending) (w' : World) : Prop :=
  ∃ mb R c, e = .returned (.slice (some ⟨mb, 0, none⟩) L.length c) ∧ (L ++ R).length = c ∧ c ≤ 1000000 ∧ (S mb ∨ mb = w.heap.size) ∧ hp w' mb = some (.cells (u64s (L ++ R)) 108 (0, 0)) ∧ okd BW (L ++ R) ∧ Kept S w w'
set_option maxHeartbeats 1600000 in
set_option maxRecDepth 100000 in
theorem set_c (z : Value) (S : Nat → Prop) (a : Addr) (c : Nat) (L : List Int) (w : World) (h : Dst w z S) (hx : Kd.C (Kd.int .u64) w (some a) L.length L) (hok : okd BW L) (h0 : 0 < L.length) (hbig : L.length ≤ 900000) (ha : ¬ S a.block) (hal : a.block < w.heap.size) :
    Calls Tryz.prog 78 #[z, .slice (some a) L.length c] w (SetPostW w S L) := by
  have HM := Aside0.mk (make_c z S L.length w h h0 hbig)
  have HX := Aside0.mk hx
  have HO := Aside0.mk hok
  have hz : ∃ A m c, z = .slice A m c := by
    rcases h with rfl | ⟨mz, nz, Z, rfl, _⟩
    · exact ⟨_, _, _, rfl⟩
    · exact ⟨_, _, _, rfl⟩
  obtain ⟨Az, mz, cz, rfl⟩ := hz
  clear h hx hok
  go_enter Tryz.func78, Tryz.ntmps78
  go_wp2_with (fail)
  refine (HM.out).mono ?_
  rintro e w1 ⟨mb, Z, rfl, hn, hmax, hmb, hm, hokZ, hk⟩
  have hne : ¬ mb = a.block := by
    rintro rfl
    rcases hmb with hmb | hmb
    · exact ha hmb
    · omega
  have HX1 := Aside0.mk (C_kept hk HX.out (fun _ => ha))
  have HK1 := Aside0.mk hk
  have HB := Aside0.mk hmb
  have HMM := Aside0.mk hm
  have HZ := Aside0.mk hokZ
  have hn1 : (L.map (Value.int .u64)).length = Nat.min L.length L.length := by simp
  have hn2 : 0 < (L.map (Value.int .u64)).length → (some ⟨mb, 0, none⟩ : Option Addr) = some ⟨mb, 0, none⟩ ∧ ∃ ad, (some a : Option Addr) = some ad ∧ ∀ j v, (L.map (Value.int .u64))[j]? = some v → w1.cell? (ad.add j) = some v := fun _ => ⟨rfl, _, rfl, fun j v hv => copy_src HX1.out j v hv⟩
  have hn3 : 0 + (L.map (Value.int .u64)).length ≤ (Z.map (Value.int .u64)).length := by simp; omega
  have HN1 := Aside0.mk hn1
  have HN2 := Aside0.mk hn2
  have HN3 := Aside0.mk hn3
  clear hk hmb hm hokZ hn1 hn2 hn3
  go_wp2_with (with_reducible refine wpList_copy_kept rfl _ _ 81 81 rfl 108 Tryz.underlying81 ?k1 (some ⟨mb, 0, none⟩) (some a) L.length Z.length L.length c rfl rfl mb 0 (Z.map (Value.int .u64)) 108 ?k2 (L.map (Value.int .u64)) ?k3 ?k4 ?k5 ?k6 ?k7)
  case k1 => kernel_rfl
  case k2 => exact HMM.out
  case k3 => exact HN1.out
  case k4 => first | exact HN2.out | exact (fun j x hj => copy_src HX1.out j _ (by rw [List.getElem?_map, hj]; rfl)) | exact (fun _ j x hj => copy_src HX1.out j _ (by rw [List.getElem?_map, hj]; rfl)) | fail
  case k5 => exact HN3.out
  case k6 => exact fun v hv => copy_one v hv
  case k7 =>
    intro w2 hw2 hk2
    have HW2 := Aside0.mk hw2.out
    clear hw2
    go_wp2_with (fail)
    go_ret
    have e1 : (L ++ Z.drop L.length).length = Z.length := by simp; omega
    refine ⟨mb, Z.drop L.length, Z.length, rfl, e1, hmax, HB.out, ?_, okd_append.2 ⟨HO.out, okd_drop HZ.out _⟩, ?_⟩
    · refine (show hp w2 mb = _ from HW2.out).trans ?_
      rw [laid_u64]
      unfold laid
      rw [List.take_zero, List.nil_append, Nat.zero_add]
    · refine HK1.out.trans hk2.out (fun i hi hT => ?_)
      obtain rfl : i = mb := hT
      rcases HB.out with h | h
      · exact h
      · omega
theorem norm_w (A : Option Addr) (c : Nat) (l : List Int) (n : Nat) (w : World) (h : Kd.C (Kd.int .u64) w A l.length l) (hn : l.length = n) (hlc : n ≤ c) (hl : n ≤ 1000000000000) :
    Calls Tryz.prog 96 #[.slice A n c] w fun e w' => e = .returned (.slice A (strip l).length c) ∧ w = w' := by
  subst hn
  exact norm_c A c l w h hlc hl
end Go.Proofs.YtfnknldbjckgoaaGreatDoor.Sp
end

/-! ## Shift -/
section
namespace Go.Proofs.YtfnknldbjckgoaaGreatDoor.Sp
open Go.RowKit Go.Proofs.YtfnknldbjckgoaaGreatDoorW.PrintWords Go.Proofs.YtfnknldbjckgoaaGreatDoorW.PrintLast Go.Proofs.YtfnknldbjckgoaaGreatDoorW.PrintMore Go.Proofs.YtfnknldbjckgoaaGreatDoor.Dig
set_option linter.unusedVariables false
set_option linter.unusedSimpArgs false

theorem and63 (s : Nat) (hs : s < 64) : Go.bits .and .u64 (s : Int) 63 = (s : Int) := by
  rw [u64_and _ _ (by omega) (by omega) (by omega) (by omega)]
  show (((s : Int).toNat &&& 63 : Nat) : Int) = s
  rw [nat_mask6]
  omega
/-- What a word is joined of: the higher bits of one, the lower ones of another. -/
theorem or_shl (a b : Int) (s : Nat) (hs : 0 < s ∧ s < 64) (ha : 0 ≤ a ∧ a < BW) (hb : 0 ≤ b ∧ b < BW) : Go.bits .or .u64 (IntKind.u64.wrap (a * 2 ^ s)) (b / 2 ^ (64 - s)) = a * 2 ^ s % BW + b / 2 ^ (64 - s) := by
  rw [IntKind.wrap_u64]
  have h64 := two64 s (by omega)
  have h1 : b / 2 ^ (64 - s) < 2 ^ s := by
    apply Int.ediv_lt_of_lt_mul (tp _)
    rw [h64]; exact hb.2
  have h0 : 0 ≤ b / 2 ^ (64 - s) := Int.ediv_nonneg hb.1 (Int.le_of_lt (tp _))
  have h2 : a * 2 ^ s % BW = 2 ^ s * (a % 2 ^ (64 - s)) := by rw [← h64, Int.mul_comm a, Int.mul_emod_mul_of_pos _ _ (tp s)]
  have h3 : (2 : Int) ^ s ≤ BW := by
    have := Int.mul_le_mul_of_nonneg_left (show (1 : Int) ≤ 2 ^ (64 - s) from tp _) (Int.le_of_lt (tp s))
    rw [h64] at this
    omega
  have h4 := Int.emod_nonneg (a * 2 ^ s) (Int.ne_of_gt BW_pos)
  have h5 := Int.emod_lt_of_pos (a * 2 ^ s) BW_pos
  rw [← BW_def] at *
  have e := BW_def
  rw [or64_comm _ _ h4 (by omega) h0 (by omega), or64_join s _ _ h4 (by rw [h2, Int.mul_emod_right]) (by omega) h0 h1 (by omega)]
  omega
theorem or_shr (a b : Int) (s : Nat) (hs : 0 < s ∧ s < 64) (ha : 0 ≤ a ∧ a < BW) (hb : 0 ≤ b ∧ b < BW) : Go.bits .or .u64 (a / 2 ^ s) (IntKind.u64.wrap (b * 2 ^ (64 - s))) = a / 2 ^ s + b * 2 ^ (64 - s) % BW := by
  have := or_shl b a (64 - s) (by omega) hb ha
  rw [IntKind.wrap_u64] at this ⊢
  rw [show 64 - (64 - s) = s by omega] at this
  have h4 := Int.emod_nonneg (b * 2 ^ (64 - s)) (show (18446744073709551616 : Int) ≠ 0 by omega)
  have h5 := Int.emod_lt_of_pos (b * 2 ^ (64 - s)) (show (0 : Int) < 18446744073709551616 by omega)
  have e := BW_def
  have h0 : 0 ≤ a / 2 ^ s := Int.ediv_nonneg ha.1 (Int.le_of_lt (tp _))
  have h1 : a / 2 ^ s ≤ a := Int.ediv_le_self _ ha.1
  rw [or64_comm _ _ h0 (by omega) h4 (by omega), this]
  omega

/-- Where the row that is read lies: in another block, or at the very place that is written. -/
def Lies (w : World) (mz oz mx ox : Nat) (L : List Int) : Prop := (∀ j, j < L.length → w.cell? ⟨mx, ox + j, none⟩ = some (.int .u64 (L.getD j 0))) ∧ (mx ≠ mz ∨ (mx = mz ∧ ox = oz))
theorem lies_down {w W : World} {mz oz mx ox : Nat} {L Z : List Int} {T : Int} {t : TypeId} (h : Lies w mz oz mx ox L) (hz : hp w mz = some (.cells (u64s Z) t (0, 0))) (hlen : oz + L.length ≤ Z.length) (hk : Kept (On mz) w W) {i : Nat} (hi : i < L.length) (hW : hp W mz = some (.cells (u64s (upd Z oz (i + 1) L.length T)) t (0, 0))) (j : Nat) (hj : j ≤ i) : W.cell? ⟨mx, ox + j, none⟩ = some (.int .u64 (L.getD j 0)) := by
  obtain ⟨h1, h2⟩ := h
  have h3 := h1 j (by omega)
  rcases h2 with h2 | ⟨rfl, rfl⟩
  · exact hk.cell h3 h2
  · rw [(blk_cell hW (ox + j)).trans (u64s_get _ (ox + j) (by rw [upd_len]; omega)), upd_get _ _ _ _ _ _ (by omega), if_neg (by omega)]
    have h4 := (blk_cell hz (ox + j)).trans (u64s_get _ (ox + j) (by omega))
    rw [h3] at h4
    rw [← Option.some.inj h4]
theorem lies_up {w W : World} {mz oz mx ox : Nat} {L Z : List Int} {T : Int} {t : TypeId} (h : Lies w mz oz mx ox L) (hz : hp w mz = some (.cells (u64s Z) t (0, 0))) (hlen : oz + L.length ≤ Z.length) (hk : Kept (On mz) w W) {i : Nat} (hW : hp W mz = some (.cells (u64s (upd Z oz 0 i T)) t (0, 0))) (j : Nat) (hj : i ≤ j) (hj2 : j < L.length) : W.cell? ⟨mx, ox + j, none⟩ = some (.int .u64 (L.getD j 0)) := by
  obtain ⟨h1, h2⟩ := h
  have h3 := h1 j (by omega)
  rcases h2 with h2 | ⟨rfl, rfl⟩
  · exact hk.cell h3 h2
  · rw [(blk_cell hW (ox + j)).trans (u64s_get _ (ox + j) (by rw [upd_len]; omega)), upd_get _ _ _ _ _ _ (by omega), if_neg (by omega)]
    have h4 := (blk_cell hz (ox + j)).trans (u64s_get _ (ox + j) (by omega))
    rw [h3] at h4
    rw [← Option.some.inj h4]
/-- What a shift leaves. -/
def ShiftPost (w : World) (mz oz : Nat) (Z : List Int) (n : Nat) (T c : Int) (t : TypeId) (e : Ending) (w' : World) : Prop :=
  e = .returned (.int .u64 c) ∧ hp w' mz = some (.cells (u64s (upd Z oz 0 n T)) t (0, 0)) ∧ Kept (On mz) w w'
set_option maxHeartbeats 3200000 in
set_option maxRecDepth 100000 in
theorem lshVU_g_c (mz oz cz mx ox cx : Nat) (Z L : List Int) (s : Nat) (t : TypeId) (w : World) (hs : 0 < s ∧ s < 64) (hz : hp w mz = some (.cells (u64s Z) t (0, 0))) (hlen : oz + L.length ≤ Z.length) (hx : Lies w mz oz mx ox L) (h0 : 0 < L.length) (hbig : L.length ≤ 100000000) (hok : okd BW L) :
    Calls Tryz.prog 116 #[.slice (some ⟨mz, oz, none⟩) L.length cz, .slice (some ⟨mx, ox, none⟩) L.length cx, .int .u64 (s : Int)] w (ShiftPost w mz oz Z L.length (ev BW L * 2 ^ s) (L.getD (L.length - 1) 0 / 2 ^ (64 - s)) t) := by
  have e1 := and63 s hs.2
  have e2 := and63 (64 - s) (by omega)
  have e0 : ((s : Int) == 0) = false := by rw [beq_eq_false_iff_ne]; omega
  have HX := Aside0.mk hx
  have HZ := Aside0.mk hz
  have hl := hx.1 (L.length - 1) (by omega)
  have HOK := Aside0.mk hok
  obtain ⟨n, hn⟩ : ∃ n, n = L.length := ⟨_, rfl⟩
  have HN := Aside0.mk hn
  obtain ⟨k, hk⟩ : ∃ k, n = k + 1 := ⟨n - 1, by omega⟩
  rw [← hn] at hl hlen h0 hbig ⊢
  clear hx hz hok hn
  subst hk
  rw [Nat.add_sub_cancel] at hl ⊢
  have e3 : (64 - (s : Int)) = ((64 - s : Nat) : Int) := by omega
  go_enter Tryz.func116, Tryz.ntmps116
  go_wp2_with (fail)
  go_loopw [8] (fun v8 wr => ∃ i : Nat, i ≤ k ∧ v8 = .int .i64 (i : Int) ∧ Aside0 (hp wr mz = some (.cells (u64s (upd Z oz (i + 1) (k + 1) (ev BW L * 2 ^ s))) t (0, 0))) ∧ Aside0 (Kept (On mz) w wr)) (fun v _ => (intOf v).toNat)
  case atStart => exact ⟨k, by omega, rfl, ⟨by rw [upd_none _ _ _ _ _ (Nat.le_refl _)]; exact HZ.out⟩, ⟨Kept.refl _ _⟩⟩
  case round =>
    obtain ⟨i, hi, rfl, HO, HK⟩ := hrel
    have hw := fun j hj => lies_down (T := ev BW L * 2 ^ s) HX.out HZ.out (by rw [← HN.out]; exact hlen) HK.out (i := i) (by rw [← HN.out]; omega) (by rw [← HN.out]; exact HO.out) j hj
    by_cases hi0 : i = 0
    · subst hi0
      have hx0 := hw 0 (Nat.le_refl _)
      have hc := (blk_cell HO.out (oz + 0)).trans (u64s_get _ (oz + 0) (by rw [upd_len]; omega))
      have hf := blk_frozen HO.out (oz + 0)
      rw [Nat.add_zero] at hx0 hc hf
      obtain ⟨a, ha⟩ : ∃ a, a = L.getD 0 0 := ⟨_, rfl⟩
      rw [← ha] at hx0
      have HD : Aside0 (IntKind.u64.wrap (a * 2 ^ s) = dg (ev BW L * 2 ^ s) 0) := ⟨by rw [dg_shl0, ev_dg HOK.out, ← ha, IntKind.wrap_u64, BW_def]⟩
      clear hw ha
      go_wp2_with (fail)
      go_ret
      refine ⟨rfl, ?_, HK.out.setCell (p := ⟨mz, oz, none⟩) (.inl rfl) _⟩
      rw [hp_here _ _ _ _ _ rfl, HO.out]
      simp only [Option.map_some, setObj_cells, u64s_set]
      have hu : (upd Z oz (0 + 1) (k + 1) (ev BW L * 2 ^ s)).set oz (dg (ev BW L * 2 ^ s) 0) = upd Z oz 0 (k + 1) (ev BW L * 2 ^ s) := upd_down Z oz 0 (k + 1) (ev BW L * 2 ^ s) (by omega) (by omega)
      rw [HD.out, hu]
    · obtain ⟨q, rfl⟩ : ∃ q, i = q + 1 := ⟨i - 1, by omega⟩
      have hx1 := hw (q + 1) (by omega)
      have hx0 := hw q (by omega)
      have hc := (blk_cell HO.out (oz + (q + 1))).trans (u64s_get _ (oz + (q + 1)) (by rw [upd_len]; omega))
      have hf := blk_frozen HO.out (oz + (q + 1))
      obtain ⟨a, ha⟩ : ∃ a, a = L.getD (q + 1) 0 := ⟨_, rfl⟩
      obtain ⟨b, hb⟩ : ∃ b, b = L.getD q 0 := ⟨_, rfl⟩
      rw [← ha] at hx1
      rw [← hb] at hx0
      obtain ⟨d, hd⟩ : ∃ d, d = dg (ev BW L * 2 ^ s) (q + 1) := ⟨_, rfl⟩
      have he : Go.bits .or .u64 (IntKind.u64.wrap (a * 2 ^ s)) (b / 2 ^ (64 - s)) = d := by
        rw [or_shl a b s hs (by rw [ha]; exact okd_get HOK.out BW_pos _) (by rw [hb]; exact okd_get HOK.out BW_pos _), hd, dg_shl _ _ hs.2, ev_dg HOK.out, ev_dg HOK.out, ← ha, ← hb]
      have HD := Aside0.mk hd
      clear hw ha hb hd
      go_wp2_with (fail)
      go_region
      all_goals
        go_wp2_with (fail)
        go_roundw
        case measure => simp [intOf]
        case rel =>
          refine ⟨q, by omega, rfl, ⟨?_⟩, ⟨?_⟩⟩
          · rw [hp_drew, hp_here _ _ _ _ _ rfl, HO.out]
            simp only [Option.map_some, setObj_cells, u64s_set]
            rw [HD.out, upd_down _ _ _ _ _ (by omega) (by omega)]
          · exact (HK.out.setCell (p := ⟨mz, oz + (q + 1), none⟩) (.inl rfl) _).drew
set_option maxHeartbeats 3200000 in
set_option maxRecDepth 100000 in
theorem rshVU_g_c (mz oz cz mx ox cx : Nat) (Z L : List Int) (s : Nat) (t : TypeId) (w : World) (hs : 0 < s ∧ s < 64) (hz : hp w mz = some (.cells (u64s Z) t (0, 0))) (hlen : oz + L.length ≤ Z.length) (hx : Lies w mz oz mx ox L) (h0 : 0 < L.length) (hbig : L.length ≤ 100000000) (hok : okd BW L) :
    Calls Tryz.prog 117 #[.slice (some ⟨mz, oz, none⟩) L.length cz, .slice (some ⟨mx, ox, none⟩) L.length cx, .int .u64 (s : Int)] w (ShiftPost w mz oz Z L.length (ev BW L / 2 ^ s) (L.getD 0 0 * 2 ^ (64 - s) % BW) t) := by
  have e1 := and63 s hs.2
  have e2 := and63 (64 - s) (by omega)
  have e0 : ((s : Int) == 0) = false := by rw [beq_eq_false_iff_ne]; omega
  have HX := Aside0.mk hx
  have HZ := Aside0.mk hz
  have hl := hx.1 0 (by omega)
  rw [Nat.add_zero] at hl
  have HOK := Aside0.mk hok
  have HW := Aside0.mk (show ∀ x : Int, IntKind.u64.wrap x = x % BW from fun x => by rw [IntKind.wrap_u64, BW_def])
  obtain ⟨n, hn⟩ : ∃ n, n = L.length := ⟨_, rfl⟩
  have HN := Aside0.mk hn
  obtain ⟨k, hk⟩ : ∃ k, n = k + 1 := ⟨n - 1, by omega⟩
  rw [← hn] at hlen h0 hbig ⊢
  rw [← HW.out]
  clear hx hz hok hn
  subst hk
  have e3 : (64 - (s : Int)) = ((64 - s : Nat) : Int) := by omega
  go_enter Tryz.func117, Tryz.ntmps117
  go_wp2_with (fail)
  go_loopw [8] (fun v8 wr => ∃ i : Nat, i ≤ k ∧ v8 = .int .i64 ((i : Int) + 1) ∧ Aside0 (hp wr mz = some (.cells (u64s (upd Z oz 0 i (ev BW L / 2 ^ s))) t (0, 0))) ∧ Aside0 (Kept (On mz) w wr)) (fun v _ => k + 1 - (intOf v).toNat)
  case atStart => exact ⟨0, by omega, rfl, ⟨by rw [upd_none _ _ _ _ _ (Nat.le_refl _)]; exact HZ.out⟩, ⟨Kept.refl _ _⟩⟩
  case round =>
    obtain ⟨i, hi, rfl, HO, HK⟩ := hrel
    have hw := fun j hj hj2 => lies_up (T := ev BW L / 2 ^ s) HX.out HZ.out (by rw [← HN.out]; exact hlen) HK.out HO.out j hj hj2
    by_cases hi0 : i = k
    · subst hi0
      have hx0 := hw i (Nat.le_refl _) (by rw [← HN.out]; omega)
      have hc := (blk_cell HO.out (oz + i)).trans (u64s_get _ (oz + i) (by rw [upd_len]; omega))
      have hf := blk_frozen HO.out (oz + i)
      obtain ⟨a, ha⟩ : ∃ a, a = L.getD i 0 := ⟨_, rfl⟩
      rw [← ha] at hx0
      have HD : Aside0 (a / 2 ^ s = dg (ev BW L / 2 ^ s) i) := ⟨by
        rw [dg_shr _ _ (by omega), ev_dg HOK.out, ev_dg HOK.out, ← ha]
        simp [List.getD, List.getElem?_eq_none (show L.length ≤ i + 1 by rw [← HN.out]; omega)]⟩
      clear hw ha
      go_wp2_with (fail)
      go_ret
      refine ⟨rfl, ?_, HK.out.setCell (p := ⟨mz, oz + i, none⟩) (.inl rfl) _⟩
      rw [hp_here _ _ _ _ _ rfl, HO.out]
      simp only [Option.map_some, setObj_cells, u64s_set]
      rw [HD.out, upd_up _ _ _ _ _ (by omega) (by omega)]
    · have hx1 := hw (i + 1) (by omega) (by rw [← HN.out]; omega)
      have hx0 := hw i (by omega) (by rw [← HN.out]; omega)
      have hc := (blk_cell HO.out (oz + i)).trans (u64s_get _ (oz + i) (by rw [upd_len]; omega))
      have hf := blk_frozen HO.out (oz + i)
      obtain ⟨a, ha⟩ : ∃ a, a = L.getD i 0 := ⟨_, rfl⟩
      obtain ⟨b, hb⟩ : ∃ b, b = L.getD (i + 1) 0 := ⟨_, rfl⟩
      rw [← hb] at hx1
      rw [← ha] at hx0
      obtain ⟨d, hd⟩ : ∃ d, d = dg (ev BW L / 2 ^ s) i := ⟨_, rfl⟩
      have he : Go.bits .or .u64 (a / 2 ^ s) (IntKind.u64.wrap (b * 2 ^ (64 - s))) = d := by
        rw [or_shr a b s hs (by rw [ha]; exact okd_get HOK.out BW_pos _) (by rw [hb]; exact okd_get HOK.out BW_pos _), hd, dg_shr _ _ (by omega), ev_dg HOK.out, ev_dg HOK.out, ← ha, ← hb]
      have HD := Aside0.mk hd
      have hlt : i < k := by omega
      clear hw ha hb hd hi0 hi
      go_wp2_with (fail)
      go_region
      all_goals
        go_wp2_with (fail)
        go_roundw
        case measure => simp [intOf]; omega
        case rel =>
          refine ⟨i + 1, by omega, by simp, ⟨?_⟩, ⟨?_⟩⟩
          · rw [hp_drew, hp_here _ _ _ _ _ rfl, HO.out]
            simp only [Option.map_some, setObj_cells, u64s_set]
            rw [HD.out, upd_up _ _ _ _ _ (by omega) (by omega)]
          · exact (HK.out.setCell (p := ⟨mz, oz + i, none⟩) (.inl rfl) _).drew
theorem lshVU_c (mz oz cz mx ox cx : Nat) (Z L : List Int) (s : Nat) (t : TypeId) (w : World) (hs : 0 < s ∧ s < 64) (hz : hp w mz = some (.cells (u64s Z) t (0, 0))) (hlen : oz + L.length ≤ Z.length) (hx : Lies w mz oz mx ox L) (h0 : 0 < L.length) (hbig : L.length ≤ 100000000) (hok : okd BW L) :
    Calls Tryz.prog 95 #[.slice (some ⟨mz, oz, none⟩) L.length cz, .slice (some ⟨mx, ox, none⟩) L.length cx, .int .u64 (s : Int)] w (ShiftPost w mz oz Z L.length (ev BW L * 2 ^ s) (L.getD (L.length - 1) 0 / 2 ^ (64 - s)) t) := by
  have H := Aside0.mk (lshVU_g_c mz oz cz mx ox cx Z L s t w hs hz hlen hx h0 hbig hok)
  obtain ⟨T, hT⟩ : ∃ T, T = ev BW L * 2 ^ s := ⟨_, rfl⟩
  obtain ⟨c, hc⟩ : ∃ c, c = L.getD (L.length - 1) 0 / 2 ^ (64 - s) := ⟨_, rfl⟩
  rw [← hT, ← hc] at H ⊢
  clear hT hc hz hx hok
  go_enter Tryz.func95, Tryz.ntmps95
  go_wp2_with (go_at_call 116; refine (H.out).mono ?_; rintro e w' ⟨rfl, h1, h2⟩; have H1 := Aside0.mk h1; have H2 := Aside0.mk h2; clear h1 h2)
  go_ret
  exact ⟨rfl, H1.out, H2.out⟩
theorem rshVU_c (mz oz cz mx ox cx : Nat) (Z L : List Int) (s : Nat) (t : TypeId) (w : World) (hs : 0 < s ∧ s < 64) (hz : hp w mz = some (.cells (u64s Z) t (0, 0))) (hlen : oz + L.length ≤ Z.length) (hx : Lies w mz oz mx ox L) (h0 : 0 < L.length) (hbig : L.length ≤ 100000000) (hok : okd BW L) :
    Calls Tryz.prog 97 #[.slice (some ⟨mz, oz, none⟩) L.length cz, .slice (some ⟨mx, ox, none⟩) L.length cx, .int .u64 (s : Int)] w (ShiftPost w mz oz Z L.length (ev BW L / 2 ^ s) (L.getD 0 0 * 2 ^ (64 - s) % BW) t) := by
  have H := Aside0.mk (rshVU_g_c mz oz cz mx ox cx Z L s t w hs hz hlen hx h0 hbig hok)
  obtain ⟨T, hT⟩ : ∃ T, T = ev BW L / 2 ^ s := ⟨_, rfl⟩
  obtain ⟨c, hc⟩ : ∃ c, c = L.getD 0 0 * 2 ^ (64 - s) % BW := ⟨_, rfl⟩
  rw [← hT, ← hc] at H ⊢
  clear hT hc hz hx hok
  go_enter Tryz.func97, Tryz.ntmps97
  go_wp2_with (go_at_call 117; refine (H.out).mono ?_; rintro e w' ⟨rfl, h1, h2⟩; have H1 := Aside0.mk h1; have H2 := Aside0.mk h2; clear h1 h2)
  go_ret
  exact ⟨rfl, H1.out, H2.out⟩
end Go.Proofs.YtfnknldbjckgoaaGreatDoor.Sp
end

/-! ## BitsC -/
section
namespace Go.Proofs.YtfnknldbjckgoaaGreatDoor.Sp
open Go.RowKit Go.Proofs.YtfnknldbjckgoaaGreatDoorW.PrintWords Go.Proofs.YtfnknldbjckgoaaGreatDoorW.PrintLast Go.Proofs.YtfnknldbjckgoaaGreatDoorW.PrintMore Go.Proofs.YtfnknldbjckgoaaGreatDoor.Dig
set_option linter.unusedVariables false
set_option linter.unusedSimpArgs false

theorem ret_i {k : IntKind} {a b : Int} (h : a = b) : Ending.returned (.int k a) = .returned (.int k b) := by rw [h]
/-! ### the plain side -/
theorem bitLen_bits : ∀ (n x : Nat), x < 2 ^ n → n ≤ 64 → Bits (x : Int) (Lib.bitLen x)
  | 0, x, h, _ => by
    have : x = 0 := by simpa using h
    subst this
    exact Bits.zero
  | n + 1, x, h, hn => by
    by_cases h0 : x = 0
    · subst h0; exact Bits.zero
    · have hx : x < 2 ^ 64 := Nat.lt_of_lt_of_le h (Nat.pow_le_pow_right (by decide) hn)
      have ih := bitLen_bits n (x / 2) (by rw [Nat.pow_succ] at h; omega) (by omega)
      rw [Lib.bitLen_half x h0 hx]
      obtain ⟨a, b, c⟩ := ih
      refine ⟨by omega, ?_, .inr ?_⟩
      · rw [Nat.add_comm, Int.pow_succ]; omega
      · rw [Nat.add_sub_cancel_left]
        rcases c with c | c
        · rw [c]; simp; omega
        · obtain ⟨k, hk⟩ : ∃ k, k = Lib.bitLen (x / 2) := ⟨_, rfl⟩
          rw [← hk] at c ⊢
          cases k with
          | zero => simp; omega
          | succ k => rw [Int.pow_succ]; simp only [Nat.add_sub_cancel] at c; omega
theorem bitLen_int {x : Int} (h0 : 0 ≤ x) (h1 : x < BW) : Bits x (Lib.bitLen x.toNat) := by
  have h := bitLen_bits 64 x.toNat (by have := BW_def; omega) (by omega)
  rwa [Int.toNat_of_nonneg h0] at h
theorem len_topW (l : List Int) (hl : Cn BW l) (t : Nat) (h0 : l ≠ []) (ht : Bits (l.getD (l.length - 1) 0) t) : Bits (ev BW l) (64 * (l.length - 1) + t) := by
  have hn : 0 < l.length := List.length_pos_iff.2 h0
  have h1 := ev_mid BW l (l.length - 1) (by omega)
  have h2 := ev_take_lt hl.ok BW_pos (l.length - 1) (by omega)
  rw [show l.length - 1 + 1 = l.length by omega, List.drop_length, ev_nil, Int.mul_zero, Int.add_zero] at h1
  have hg : 0 < l.getD (l.length - 1) 0 := by
    have h3 := okd_get hl.ok BW_pos (l.length - 1)
    have h4 := hl.top (l.getD (l.length - 1) 0) (by rw [List.getLast?_eq_getElem?, List.getD_eq_getElem?_getD, List.getElem?_eq_getElem (by omega)]; rfl)
    omega
  have ht0 := ht.pos hg
  have e : BW ^ (l.length - 1) = 2 ^ (64 * (l.length - 1)) := by rw [Int.pow_mul, BW_two]
  rw [e] at h1 h2
  have hp : (0 : Int) < 2 ^ (64 * (l.length - 1)) := Int.pow_pos (by omega)
  refine ⟨ev_nonneg hl.ok BW_pos, ?_, .inr ?_⟩
  · rw [Int.pow_add]
    have h5 : (2 : Int) ^ (64 * (l.length - 1)) * (l.getD (l.length - 1) 0 + 1) ≤ 2 ^ (64 * (l.length - 1)) * 2 ^ t := Int.mul_le_mul_of_nonneg_left (by have := ht.2.1; omega) (Int.le_of_lt hp)
    rw [Int.mul_add, Int.mul_one] at h5
    omega
  · rw [show 64 * (l.length - 1) + t - 1 = 64 * (l.length - 1) + (t - 1) by omega, Int.pow_add]
    have ht2 : (2 : Int) ^ (t - 1) ≤ l.getD (l.length - 1) 0 := by
      rcases ht.2.2 with h | h
      · omega
      · exact h
    have h5 : (2 : Int) ^ (64 * (l.length - 1)) * 2 ^ (t - 1) ≤ 2 ^ (64 * (l.length - 1)) * l.getD (l.length - 1) 0 := Int.mul_le_mul_of_nonneg_left ht2 (Int.le_of_lt hp)
    omega
/-- The lower bits are filled: the number of bits stays. -/
theorem smear {x : Int} {n : Nat} (h : Bits x n) (hx : x < BW) (k : Nat) : Bits (Go.bits .or .u64 x (x / 2 ^ k)) n ∧ Go.bits .or .u64 x (x / 2 ^ k) < BW := by
  obtain ⟨m, rfl⟩ := Int.eq_ofNat_of_zero_le h.1
  have e := BW_def
  have e2 : (m : Int) / 2 ^ k = ((m / 2 ^ k : Nat) : Int) := by push_cast; rfl
  have hm : m < 18446744073709551616 := by omega
  have hmk : m / 2 ^ k ≤ m := Nat.div_le_self _ _
  rw [e2, u64_or_nat _ _ hm (by omega)]
  have hn : m < 2 ^ n := by exact_mod_cast h.2.1
  have h1 : m ||| m / 2 ^ k < 2 ^ n := Nat.or_lt_two_pow hn (by omega)
  have h2 : m ≤ m ||| m / 2 ^ k := Nat.left_le_or
  have h3 : m ||| m / 2 ^ k < 2 ^ 64 := Nat.or_lt_two_pow (by omega) (by omega)
  refine ⟨⟨by omega, by exact_mod_cast h1, ?_⟩, by omega⟩
  rcases h.2.2 with h4 | h4
  · exact .inl h4
  · exact .inr (Int.le_trans h4 (by exact_mod_cast h2))

/-! ### nlz, bitLen -/
set_option maxHeartbeats 800000 in
theorem nlz_c (x : Int) (t : Nat) (w : World) (hx : 0 ≤ x ∧ x < BW) (ht : Bits x t) : Calls Tryz.prog 114 #[.int .u64 x] w fun e w' => e = .returned (.int .u64 ((64 - t : Nat) : Int)) ∧ w = w' := by
  have h1 := Sh.bits_LeadingZeros x w hx.1 (by have := BW_def; omega)
  have ht2 : Lib.bitLen x.toNat = t := (bitLen_int hx.1 hx.2).uniq ht
  have hle : t ≤ 64 := ht.le (by rw [← BW_two]; exact hx.2)
  rw [ht2, show (64 - (t : Int)) = ((64 - t : Nat) : Int) by omega] at h1
  have hw : IntKind.u64.wrap ((64 - t : Nat) : Int) = ((64 - t : Nat) : Int) := by rw [IntKind.wrap_u64]; omega
  have H1 := Aside0.mk h1
  clear h1 ht2 ht
  go_enter Tryz.func114, Tryz.ntmps114
  go_wp2_with (go_at_call 136; refine (H1.out).mono ?_; rintro e w' ⟨rfl, rfl⟩)
  go_ret
  exact ⟨by first | rfl | (simp [hw]; done), rfl⟩
set_option maxHeartbeats 1600000 in
set_option maxRecDepth 100000 in
theorem bitLen_c (A : Option Addr) (c : Nat) (l : List Int) (b : Nat) (w : World) (h : Kd.C (Kd.int .u64) w A l.length l) (hlc : l.length ≤ c) (hl : l.length ≤ 100000000) (hc : Cn BW l) (hb : Bits (ev BW l) b) :
    Calls Tryz.prog 52 #[.slice A l.length c] w fun e w' => e = .returned (.int .i64 (b : Int)) ∧ w = w' := by
  by_cases h0 : l = []
  · subst h0
    rw [ev_nil] at hb
    obtain rfl := hb.uniq Bits.zero
    go_enter Tryz.func52, Tryz.ntmps52
    go_wp2_with (fail)
    go_ret
    exact ⟨rfl, rfl⟩
  · have hn : 0 < l.length := List.length_pos_iff.2 h0
    have hx := okd_get hc.ok BW_pos (l.length - 1)
    obtain ⟨ad, e, hcell⟩ := Kd.at_int h ((l.length - 1 : Nat) : Int) (by omega) (by omega)
    subst e
    rw [rd_nat, Int.toNat_natCast] at hcell
    obtain ⟨x, hxx⟩ : ∃ x, x = l.getD (l.length - 1) 0 := ⟨_, rfl⟩
    rw [← hxx] at hx hcell
    obtain ⟨t, ht⟩ := Bits.exists x hx.1
    have hbt := hb.uniq (len_topW l hc t h0 (by rw [← hxx]; exact ht))
    have htl : t ≤ 64 := ht.le (by rw [← BW_two]; exact hx.2)
    obtain ⟨k, hk⟩ : ∃ k, l.length = k + 1 := ⟨l.length - 1, by omega⟩
    rw [hk] at hcell hbt ⊢
    rw [Nat.add_sub_cancel] at hcell hbt
    obtain ⟨x1, e1⟩ : ∃ y, Go.bits .or .u64 x (x / 2) = y := ⟨_, rfl⟩
    have s1 := smear ht hx.2 1
    rw [show (2 : Int) ^ 1 = 2 from rfl, e1] at s1
    obtain ⟨x2, e2⟩ : ∃ y, Go.bits .or .u64 x1 (x1 / 4) = y := ⟨_, rfl⟩
    have s2 := smear s1.1 s1.2 2
    rw [show (2 : Int) ^ 2 = 4 from rfl, e2] at s2
    obtain ⟨x3, e3⟩ : ∃ y, Go.bits .or .u64 x2 (x2 / 16) = y := ⟨_, rfl⟩
    have s3 := smear s2.1 s2.2 4
    rw [show (2 : Int) ^ 4 = 16 from rfl, e3] at s3
    obtain ⟨x4, e4⟩ : ∃ y, Go.bits .or .u64 x3 (x3 / 256) = y := ⟨_, rfl⟩
    have s4 := smear s3.1 s3.2 8
    rw [show (2 : Int) ^ 8 = 256 from rfl, e4] at s4
    obtain ⟨x5, e5⟩ : ∃ y, Go.bits .or .u64 x4 (x4 / 65536) = y := ⟨_, rfl⟩
    have s5 := smear s4.1 s4.2 16
    rw [show (2 : Int) ^ 16 = 65536 from rfl, e5] at s5
    obtain ⟨x6, e6⟩ : ∃ y, Go.bits .or .u64 x5 (x5 / 65536 / 65536) = y := ⟨_, rfl⟩
    have s6 := smear s5.1 s5.2 32
    rw [show (2 : Int) ^ 32 = 65536 * 65536 from rfl, ← edd (by omega), e6] at s6
    have H1 := Sh.bits_Len x6 w s6.1.1 (by have := BW_def; have := s6.2; omega)
    rw [show Lib.bitLen x6.toNat = t from (bitLen_int s6.1.1 s6.2).uniq s6.1] at H1
    have H := Aside0.mk H1
    have HE := Aside0.mk hbt
    clear H1 hbt s1 s2 s3 s4 s5 s6 hb ht hx hxx hc h
    go_enter Tryz.func52, Tryz.ntmps52
    go_wp2_with (go_at_call 77; refine (H.out).mono ?_; rintro e w' ⟨rfl, rfl⟩)
    go_ret
    exact ⟨ret_i (by have := HE.out; omega), rfl⟩

/-! ### trailingZeroBits -/
/-- The library's table of trailing zeros is as its text lays it. -/
def Tb (w : World) : Prop := TabAt 3 Lib.deBruijn64tab w ∧ 3 < w.heap.size
theorem Tb.below {w w' : World} {B : Nat} (h : Tb w) (hb : Below B w w') (hB : 3 < B) : Tb w' := ⟨fun j hj => (hb.cell (p := ⟨_, j, none⟩) hB).trans (h.1 j hj), Nat.lt_of_lt_of_le h.2 hb.size⟩
theorem Tb.kept {w w' : World} {S : Nat → Prop} (h : Tb w) (hb : Kept S w w') (hS : ¬ S 3) : Tb w' := ⟨fun j hj => hb.cell (h.1 j hj) hS, Nat.lt_of_lt_of_le h.2 hb.size⟩
/-- 2^t is the greatest power of 2 that divides v. -/
def Tz (v : Int) (t : Nat) : Prop := ∃ m, v = 2 ^ t * (2 * m + 1)
theorem Tz.mod {v : Int} {t : Nat} (h : Tz v t) : v % 2 ^ t = 0 := by
  obtain ⟨m, rfl⟩ := h
  rw [Int.mul_emod_right]
theorem Tz.odd {v : Int} {t : Nat} (h : Tz v t) : v / 2 ^ t % 2 = 1 := by
  obtain ⟨m, rfl⟩ := h
  rw [Int.mul_ediv_cancel_left _ (Int.ne_of_gt (tp t))]
  omega
theorem Tz.not {v : Int} {t k : Nat} (h : Tz v t) (hk : v % 2 ^ k = 0) : k ≤ t := by
  rcases Nat.lt_or_ge t k with hlt | hge
  · exfalso
    obtain ⟨m, rfl⟩ := h
    obtain ⟨j, rfl⟩ : ∃ j, k = t + (j + 1) := ⟨k - t - 1, by omega⟩
    rw [Int.pow_add, Int.mul_emod_mul_of_pos _ _ (tp t), Int.pow_succ] at hk
    have h1 : (2 * m + 1) % (2 ^ j * 2) = 0 := by
      rcases Int.mul_eq_zero.1 hk with h | h
      · have := tp t; omega
      · exact h
    have h2 : (2 * m + 1) % 2 = 0 := by
      rw [← Int.emod_emod_of_dvd (2 * m + 1) (show (2 : Int) ∣ 2 ^ j * 2 from ⟨2 ^ j, Int.mul_comm _ _⟩), h1]
      rfl
    omega
  · exact hge
theorem Tz.uniq {v : Int} {t u : Nat} (h : Tz v t) (k : Tz v u) : t = u := by
  have := h.not k.mod
  have := k.not h.mod
  omega
theorem Tz.exists {v : Int} (h : 0 < v) : ∃ t, Tz v t := by
  obtain ⟨n, rfl⟩ := Int.eq_ofNat_of_zero_le (Int.le_of_lt h)
  have hn : n < 2 ^ n := Nat.lt_two_pow_self
  obtain ⟨m, hm, _⟩ := Lib.ctzFrom_spec n n (by omega) hn
  exact ⟨Lib.ctzFrom n n, m, by exact_mod_cast hm⟩
theorem ctz_tz {x : Int} (h0 : 0 < x) (h1 : x < BW) : Tz x (Lib.ctz 64 x.toNat) := by
  obtain ⟨n, rfl⟩ := Int.eq_ofNat_of_zero_le (Int.le_of_lt h0)
  obtain ⟨m, hm, _⟩ := Lib.ctzFrom_spec 64 n (by omega) (by have := BW_def; omega)
  unfold Lib.ctz
  rw [Int.toNat_natCast, if_neg (by omega)]
  exact ⟨m, by exact_mod_cast hm⟩
theorem tz_words {l : List Int} (h : okd BW l) (i t : Nat) (hi : i < l.length) (h0 : ∀ j, j < i → l.getD j 0 = 0) (ht : Tz (l.getD i 0) t) : Tz (ev BW l) (64 * i + t) := by
  obtain ⟨m, hm⟩ := ht
  have h1 := ev_mid BW l i hi
  have h2 : ev BW (l.take i) = 0 := by
    have : l.take i = List.replicate i 0 := by
      apply List.ext_getElem
      · simp; omega
      · intro j h5 h6
        have h7 := h0 j (by simp at h5; omega)
        simp only [List.getElem_take, List.getElem_replicate]
        simp at h5
        simpa [List.getD, List.getElem?_eq_getElem (show j < l.length by omega)] using h7
    rw [this, ev_replicate]
  have ht64 : t < 64 := by
    have hg := okd_get h BW_pos i
    rcases Nat.lt_or_ge t 64 with h | h
    · exact h
    · exfalso
      have h3 : (2 : Int) ^ 64 ≤ 2 ^ t := pow_mono (by omega) h
      have h4 := Int.mul_le_mul_of_nonneg_left h3 (show (0 : Int) ≤ 1 by omega)
      rw [BW_two] at hg
      rcases Int.lt_or_le m 0 with hm0 | hm0
      · have := Int.mul_le_mul_of_nonneg_left (show 2 * m + 1 ≤ -1 by omega) (Int.le_of_lt (tp t))
        have := tp t
        omega
      · have := Int.mul_le_mul_of_nonneg_left (show 1 ≤ 2 * m + 1 by omega) (Int.le_of_lt (tp t))
        omega
  refine ⟨m + 2 ^ (63 - t) * ev BW (l.drop (i + 1)), ?_⟩
  rw [h1, h2, hm, two_words, Int.zero_add, Int.mul_assoc]
  congr 1
  have e : BW = 2 ^ t * (2 * 2 ^ (63 - t)) := by
    rw [← two64 t (by omega), show 64 - t = (63 - t) + 1 by omega, Int.pow_succ]
    congr 1
    rw [Int.mul_comm]
  obtain ⟨D, hD⟩ : ∃ D, D = ev BW (l.drop (i + 1)) := ⟨_, rfl⟩
  rw [← hD, show 2 * (m + 2 ^ (63 - t) * D) + 1 = (2 * m + 1) + 2 * (2 ^ (63 - t) * D) by omega, Int.mul_add _ (2 * m + 1), e, Int.mul_assoc, Int.mul_assoc]
set_option maxHeartbeats 1600000 in
set_option maxRecDepth 100000 in
theorem tzb_c (A : Option Addr) (c : Nat) (l : List Int) (t : Nat) (w : World) (h : Kd.C (Kd.int .u64) w A l.length l) (hlc : l.length ≤ c) (hl : l.length ≤ 100000000) (hok : okd BW l) (h0 : 0 < ev BW l) (ht : Tz (ev BW l) t) (hT : Tb w) :
    Calls Tryz.prog 75 #[.slice A l.length c] w fun e w' => e = .returned (.int .u64 (t : Int)) ∧ w = w' := by
  have hn : 0 < l.length := by
    rcases Nat.eq_zero_or_pos l.length with h1 | h1
    · have : l = [] := List.eq_nil_of_length_eq_zero h1
      subst this
      rw [ev_nil] at h0
      omega
    · exact h1
  obtain ⟨i, hi, hz, hnz⟩ : ∃ i, i < l.length ∧ (∀ j, j < i → l.getD j 0 = 0) ∧ l.getD i 0 ≠ 0 := by
    refine Classical.byContradiction fun hno => ?_
    have : ∀ n, n ≤ l.length → ∀ j, j < n → l.getD j 0 = 0 := by
      intro n
      induction n with
      | zero => intro _ j hj; omega
      | succ n ih =>
        intro hn2 j hj
        rcases Nat.lt_or_ge j n with h2 | h2
        · exact ih (by omega) j h2
        · obtain rfl : j = n := by omega
          exact Classical.byContradiction fun h3 => hno ⟨j, by omega, ih (by omega), h3⟩
    have h4 : l = List.replicate l.length 0 := by
      apply List.ext_getElem
      · simp
      · intro j h5 h6
        have h7 := this l.length (Nat.le_refl _) j h5
        simpa [List.getD, List.getElem?_eq_getElem h5] using h7
    rw [h4, ev_replicate] at h0
    omega
  have hg := okd_get hok BW_pos i
  obtain ⟨x, hx⟩ : ∃ x, x = l.getD i 0 := ⟨_, rfl⟩
  have hxt := ctz_tz (x := x) (by rw [hx]; omega) (by rw [hx]; exact hg.2)
  have hte := ht.uniq (tz_words hok i _ hi hz (by rw [← hx]; exact hxt))
  obtain ⟨u, hu⟩ : ∃ u, u = Lib.ctz 64 x.toNat := ⟨_, rfl⟩
  have hu64 : u ≤ 64 := by
    have := hxt.mod
    rw [← hu] at this
    rcases Nat.lt_or_ge 64 u with h5 | h5
    · exfalso
      have h6 : (2 : Int) ^ 64 ≤ 2 ^ u := pow_mono (by omega) (by omega)
      rw [← BW_two] at h6
      rw [Int.emod_eq_of_lt (by rw [hx]; exact hg.1) (by rw [hx]; omega)] at this
      rw [hx] at this
      exact hnz this
    · exact h5
  have H1 := Sh.bits_TrailingZeros x.toNat (by have := BW_def; rw [hx]; omega) w (fun _ => hT.1)
  rw [← hu, Int.toNat_of_nonneg (by rw [hx]; exact hg.1)] at H1
  rw [← hu] at hte
  have HC := Aside0.mk h
  have H := Aside0.mk H1
  have HTE := Aside0.mk hte
  have HZ := Aside0.mk hz
  have HX := Aside0.mk hx
  have hxn : (x == 0) = false := by rw [beq_eq_false_iff_ne, hx]; exact hnz
  have h0b : ((l.length : Int) == 0) = false := by rw [beq_eq_false_iff_ne]; omega
  have hw : IntKind.u64.wrap (u : Int) = (u : Int) := by rw [IntKind.wrap_u64]; omega
  clear h H1 hte hz hx ht hT hxt hu hg h0 hok hnz
  go_enter Tryz.func75, Tryz.ntmps75
  go_wp2_with (fail)
  go_loop [3] (fun v3 => ∃ j : Nat, j ≤ i ∧ v3 = .int .u64 (j : Int)) (fun v => i - (intOf v).toNat)
  case atStart => exact ⟨0, by omega, rfl⟩
  case round =>
    obtain ⟨j, hj, rfl⟩ := hrel
    obtain ⟨ad, e, hcell⟩ := Kd.at_int HC.out (j : Int) (by omega) (by omega)
    subst e
    rw [rd_nat, Int.toNat_natCast] at hcell
    by_cases hji : j = i
    · subst hji
      rw [← HX.out] at hcell
      go_wp2_with (go_at_call 106; refine (H.out).mono ?_; rintro e w' ⟨rfl, rfl⟩)
      go_ret
      exact ⟨ret_i (by have := HTE.out; omega), rfl⟩
    · rw [HZ.out j (by omega)] at hcell
      have hlt : j < i := by omega
      clear hji hj
      go_wp2_with (fail)
      go_round
      case rel => exact ⟨j + 1, by omega, by simp⟩
      case measure => simp [intOf]; omega
/-! ### bit, sticky -/
set_option maxHeartbeats 1600000 in
set_option maxRecDepth 100000 in
theorem bit_w (A : Option Addr) (c : Nat) (l : List Int) (r : Nat) (w : World) (h : Kd.C (Kd.int .u64) w A l.length l) (hlc : l.length ≤ c) (hl : l.length ≤ 100000000) (hok : okd BW l) (hr : r < 64 * l.length) :
    Calls Tryz.prog 128 #[.slice A l.length c, .int .u64 (r : Int)] w fun e w' => e = .returned (.int .u64 (ev BW l / 2 ^ r % 2)) ∧ w = w' := by
  obtain ⟨j, hj⟩ : ∃ j : Nat, j = r / 64 := ⟨_, rfl⟩
  obtain ⟨t, ht⟩ : ∃ t : Nat, t = r % 64 := ⟨_, rfl⟩
  have hr2 : r = 64 * j + t := by omega
  have ht64 : t < 64 := by omega
  have hjl : j < l.length := by omega
  obtain ⟨ad, e, hx⟩ := Kd.at_int h (j : Int) (by omega) (by omega)
  subst e
  rw [rd_nat, Int.toNat_natCast] at hx
  have hg := okd_get hok BW_pos j
  obtain ⟨x, hxx⟩ : ∃ x, x = l.getD j 0 := ⟨_, rfl⟩
  rw [← hxx] at hx hg
  have e0 := BW_def
  have hv : Go.bits .and .u64 (x / 2 ^ t) 1 = ev BW l / 2 ^ r % 2 := by
    rw [hr2, ← bit_word _ _ _ ht64, ev_dg hok, ← hxx]
    have h0 : 0 ≤ x / 2 ^ t := Int.ediv_nonneg hg.1 (Int.le_of_lt (tp t))
    have h1 : x / 2 ^ t ≤ x := Int.ediv_le_self _ hg.1
    rw [u64_and _ _ h0 (by omega) (by omega) (by omega)]
    show (((x / 2 ^ t).toNat &&& 1 : Nat) : Int) = _
    rw [nat_mask1]
    omega
  have HV := Aside0.mk hv
  have hq : (r : Int) / 64 = (j : Int) := by omega
  have hm : (r : Int) % 64 = (t : Int) := by omega
  have hlw : IntKind.u64.wrap (l.length : Int) = (l.length : Int) := by rw [IntKind.wrap_u64]; omega
  rw [← HV.out]
  clear hv hr2 hr hj ht h hok hxx hg e0
  go_enter Tryz.func128, Tryz.ntmps128
  go_wp2_with (fail)
  go_ret
  exact ⟨rfl, rfl⟩
theorem shl_zero {x : Int} (t : Nat) (ht : t ≤ 64) : IntKind.u64.wrap (x * 2 ^ (64 - t)) = 0 ↔ x % 2 ^ t = 0 := by
  rw [IntKind.wrap_u64]
  have h64 := two64 t ht
  rw [BW_def] at h64
  rw [← h64, Int.mul_comm x, Int.mul_comm ((2 : Int) ^ t), Int.mul_emod_mul_of_pos _ _ (tp (64 - t)), Int.mul_eq_zero]
  have := tp (64 - t)
  omega
set_option maxHeartbeats 1600000 in
set_option maxRecDepth 100000 in
theorem sticky_w (A : Option Addr) (c : Nat) (l : List Int) (r : Nat) (w : World) (h : Kd.C (Kd.int .u64) w A l.length l) (hlc : l.length ≤ c) (hl : l.length ≤ 100000000) (hok : okd BW l) (hr : r < 64 * l.length) :
    Calls Tryz.prog 129 #[.slice A l.length c, .int .u64 (r : Int)] w fun e w' => e = .returned (.int .u64 (if ev BW l % 2 ^ r ≠ 0 then 1 else 0)) ∧ w = w' := by
  obtain ⟨j, hj⟩ : ∃ j : Nat, j = r / 64 := ⟨_, rfl⟩
  obtain ⟨t, ht⟩ : ∃ t : Nat, t = r % 64 := ⟨_, rfl⟩
  have hr2 : r = 64 * j + t := by omega
  have ht64 : t < 64 := by omega
  have hjl : j < l.length := by omega
  have hst := sticky_iff hok j t (by omega) (by omega)
  rw [← hr2] at hst
  obtain ⟨s, hs⟩ : ∃ s : Int, s = if ev BW l % 2 ^ r ≠ 0 then 1 else 0 := ⟨_, rfl⟩
  rw [← hs]
  have HY : Aside0 (((∃ i, i < j ∧ l.getD i 0 ≠ 0) ∨ l.getD j 0 % 2 ^ t ≠ 0) → s = 1) := ⟨fun h => by rw [hs, if_pos (hst.2 h)]⟩
  have HN : Aside0 (¬ ((∃ i, i < j ∧ l.getD i 0 ≠ 0) ∨ l.getD j 0 % 2 ^ t ≠ 0) → s = 0) := ⟨fun h => by rw [hs, if_neg (fun h2 => h (hst.1 h2))]⟩
  have hq : (r : Int) / 64 = (j : Int) := by omega
  have hm : (r : Int) % 64 = (t : Int) := by omega
  have hlw : IntKind.u64.wrap (l.length : Int) = (l.length : Int) := by rw [IntKind.wrap_u64]; omega
  have h64 : (64 - (t : Int)) = ((64 - t : Nat) : Int) := by omega
  have hdd : decide (l.length ≤ j) = false := decide_eq_false (by omega)
  have HC := Aside0.mk h
  clear hs hst hr2 hr hj ht h hok
  go_enter Tryz.func129, Tryz.ntmps129
  go_wp2_with (fail)
  go_loop [22] (fun v22 => ∃ i : Nat, i ≤ j ∧ v22 = .int .i64 (i : Int) ∧ Aside0 (∀ k, k < i → l.getD k 0 = 0)) (fun v => j - (intOf v).toNat)
  case atStart => exact ⟨0, by omega, rfl, ⟨fun k hk => absurd hk (by omega)⟩⟩
  case round =>
    obtain ⟨i, hi, rfl, HZ⟩ := hrel
    obtain ⟨ad, e, hcell⟩ := Kd.at_int HC.out (i : Int) (by omega) (by omega)
    subst e
    rw [rd_nat, Int.toNat_natCast] at hcell
    obtain ⟨x, hx⟩ : ∃ x, x = l.getD i 0 := ⟨_, rfl⟩
    have HX := Aside0.mk hx
    rw [← hx] at hcell
    clear hx
    by_cases hij : i = j
    · subst hij
      by_cases h0 : x % 2 ^ t = 0
      · have hz : IntKind.u64.wrap (x * 2 ^ (64 - t)) = 0 := (shl_zero t (by omega)).2 h0
        have hs0 : s = 0 := HN.out (by
          rintro (⟨k, hk, hne⟩ | hne)
          · exact hne (HZ.out k hk)
          · rw [← HX.out] at hne; exact hne h0)
        subst hs0
        clear h0
        go_wp2_with (fail)
        go_ret
        exact ⟨rfl, rfl⟩
      · have hz : (IntKind.u64.wrap (x * 2 ^ (64 - t)) != 0) = true := by rw [bne_iff_ne]; exact fun h => h0 ((shl_zero t (by omega)).1 h)
        have hz2 : (IntKind.u64.wrap (x * 2 ^ (64 - t)) == 0) = false := by rw [beq_eq_false_iff_ne]; exact fun h => h0 ((shl_zero t (by omega)).1 h)
        have hs1 : s = 1 := HY.out (.inr (by rw [← HX.out]; exact h0))
        subst hs1
        clear h0
        go_wp2_with (fail)
        go_ret
        exact ⟨rfl, rfl⟩
    · have hlt : i < j := by omega
      clear hij hi
      by_cases h0 : x = 0
      · subst h0
        go_wp2_with (fail)
        go_round
        case rel => exact ⟨i + 1, by omega, by simp, ⟨fun k hk => by
          rcases Nat.lt_or_ge k i with h | h
          · exact HZ.out k h
          · obtain rfl : k = i := by omega
            exact HX.out.symm⟩⟩
        case measure => simp [intOf]; omega
      · have hs1 : s = 1 := HY.out (.inl ⟨i, hlt, by rw [← HX.out]; exact h0⟩)
        subst hs1
        have hb : (x != 0) = true := by rw [bne_iff_ne]; exact h0
        have hb2 : (x == 0) = false := by rw [beq_eq_false_iff_ne]; exact h0
        go_wp2_with (fail)
        go_ret
        exact ⟨rfl, rfl⟩
end Go.Proofs.YtfnknldbjckgoaaGreatDoor.Sp
end

/-! ## AddVW -/
section
namespace Go.Proofs.YtfnknldbjckgoaaGreatDoor.Sp
open Go.RowKit Go.Proofs.YtfnknldbjckgoaaGreatDoorW.PrintWords Go.Proofs.YtfnknldbjckgoaaGreatDoorW.PrintLast Go.Proofs.YtfnknldbjckgoaaGreatDoorW.PrintMore Go.Proofs.YtfnknldbjckgoaaGreatDoor.Dig
set_option linter.unusedVariables false
set_option linter.unusedSimpArgs false

theorem upd_same {Z : List Int} {o lo hi n : Nat} {T : Int} (h : hi ≤ n) (hd : ∀ j, hi ≤ j → j < n → o + j < Z.length → dg T j = Z.getD (o + j) 0) (hl : lo ≤ hi) : upd Z o lo hi T = upd Z o lo n T := by
  apply List.ext_getElem
  · simp [upd]
  · intro i h1 h2
    simp only [upd, List.getElem_map, List.getElem_range]
    by_cases e : o + lo ≤ i ∧ i < o + hi
    · rw [if_pos e, if_pos (by omega)]
    · rw [if_neg e]
      by_cases e2 : o + lo ≤ i ∧ i < o + n
      · rw [if_pos e2]
        have := hd (i - o) (by omega) (by omega) (by rw [upd_len] at h1; omega)
        rw [this]
        congr 1
        omega
      · rw [if_neg e2]
theorem cy_zero {l : List Int} (h : okd BW l) {y : Int} {i : Nat} (h0 : cy l y i = 0) : ∀ j, i ≤ j → cy l y j = 0 := by
  intro j hj
  induction j with
  | zero => obtain rfl : i = 0 := by omega
            exact h0
  | succ j ih =>
    rcases Nat.lt_or_ge j i with h1 | h1
    · obtain rfl : i = j + 1 := by omega
      exact h0
    · have hg := okd_get h BW_pos j
      show (l.getD j 0 + cy l y j) / BW = 0
      rw [ih h1, Int.add_zero, Int.ediv_eq_zero_of_lt hg.1 hg.2]
theorem cy_rest {l R : List Int} (h : okd BW l) {y : Int} {i : Nat} (h0 : cy l y i = 0) (j : Nat) (hj : i ≤ j) (hjl : j < l.length) : dg (ev BW l + y) j = (l ++ R).getD (0 + j) 0 := by
  have hg := okd_get h BW_pos j
  rw [cy_dg h, cy_zero h h0 j hj, Int.add_zero, Int.emod_eq_of_lt hg.1 hg.2, Nat.zero_add]
  simp only [List.getD_eq_getElem?_getD, List.getElem?_append_left hjl]
theorem add64 (x y : Int) (hx : 0 ≤ x) (hy : 0 ≤ y) (w : World) : (callFunc 155 #[.int .u64 x, .int .u64 y, .int .u64 0]).run Tryz.prog w =
    .ok (.value (.tuple #[.int .u64 ((x + y) % 18446744073709551616), .int .u64 ((x + y) / 18446744073709551616)])) w := by
  obtain ⟨x, rfl⟩ := Int.eq_ofNat_of_zero_le hx
  obtain ⟨y, rfl⟩ := Int.eq_ofNat_of_zero_le hy
  refine (Sh.bits_Add64 x y 0 (by omega) w).trans ?_
  congr 5 <;> omega
set_option maxHeartbeats 800000 in
set_option maxRecDepth 100000 in
theorem bitsAdd_c (x y : Int) (w : World) (hx : 0 ≤ x) (hy : 0 ≤ y) : Calls Tryz.prog 135 #[.int .u64 x, .int .u64 y, .int .u64 0] w fun e w' => e = .returned (.tuple #[.int .u64 ((x + y) % BW), .int .u64 ((x + y) / BW)]) ∧ w = w' := by
  have h := add64 x y hx hy w
  rw [← BW_def] at h
  obtain ⟨a, ha⟩ : ∃ a, a = (x + y) % BW := ⟨_, rfl⟩
  obtain ⟨b, hb⟩ : ∃ b, b = (x + y) / BW := ⟨_, rfl⟩
  rw [← ha, ← hb] at h ⊢
  clear ha hb
  go_enter Tryz.func135, Tryz.ntmps135
  go_wp2
  go_ret2
  exact ⟨rfl, rfl⟩
set_option maxHeartbeats 3200000 in
set_option maxRecDepth 100000 in
theorem addVW_c (mz cz : Nat) (L R : List Int) (y : Int) (t : TypeId) (w : World) (hz : hp w mz = some (.cells (u64s (L ++ R)) t (0, 0))) (h0 : 0 < L.length) (hbig : L.length ≤ 100000000) (hok : okd BW L) (hy : 0 ≤ y ∧ y < BW) :
    Calls Tryz.prog 113 #[.slice (some ⟨mz, 0, none⟩) L.length cz, .slice (some ⟨mz, 0, none⟩) L.length cz, .int .u64 y] w (ShiftPost w mz 0 (L ++ R) L.length (ev BW L + y) (cy L y L.length) t) := by
  have hq := neq_same 145 108 Tryz.underlying145 infoWord ⟨mz, 0, none⟩
  have HZ := Aside0.mk hz
  have HOK := Aside0.mk hok
  obtain ⟨n, hn⟩ : ∃ n, n = L.length := ⟨_, rfl⟩
  have HN := Aside0.mk hn
  have hlen : n ≤ (L ++ R).length := by rw [List.length_append]; omega
  have hx0 := (blk_cell hz 0).trans (u64s_get _ 0 (by omega))
  have hf0 := blk_frozen hz 0
  have e0 : (L ++ R).getD 0 0 = L.getD 0 0 := by simp only [List.getD_eq_getElem?_getD, List.getElem?_append_left h0]
  rw [e0] at hx0
  have hg := okd_get hok BW_pos 0
  obtain ⟨x, hx⟩ : ∃ x, x = L.getD 0 0 := ⟨_, rfl⟩
  rw [← hx] at hx0 hg
  have hnb : ((n : Int) == 0) = false := by rw [beq_eq_false_iff_ne]; omega
  rw [← hn] at h0 hbig ⊢
  have hA := bitsAdd_c x y
  have HC1 : Aside0 ((x + y) / BW = cy L y 1) := ⟨by rw [hx]; rfl⟩
  have HD0 : Aside0 ((x + y) % BW = dg (ev BW L + y) 0) := ⟨by rw [cy_dg hok, ← hx]; rfl⟩
  have hc1 := cy_ok hok hy.1 hy.2 1
  have HY := Aside0.mk hy
  obtain ⟨k, rfl⟩ : ∃ k, n = k + 1 := ⟨n - 1, by omega⟩
  have H0 : Aside0 (∀ w', hp w' mz = some (.cells (u64s (L ++ R)) t (0, 0)) → hp (w'.setCell ⟨mz, 0, none⟩ (.int .u64 ((x + y) % BW))) mz = some (.cells (u64s (upd (L ++ R) 0 0 1 (ev BW L + y))) t (0, 0))) := ⟨fun w' hw' => by
    rw [hp_here _ _ _ _ _ rfl, hw']
    simp only [Option.map_some, setObj_cells, u64s_set]
    rw [HD0.out]
    have hu := upd_up (L ++ R) 0 0 0 (ev BW L + y) (Nat.le_refl _) (by omega)
    rw [upd_none _ _ _ _ _ (Nat.le_refl _)] at hu
    have hu' : (L ++ R).set 0 (dg (ev BW L + y) 0) = upd (L ++ R) 0 0 1 (ev BW L + y) := hu
    rw [hu']⟩
  have hxy := HY.out
  by_cases hc : (x + y) / BW = 0
  · have HE : Aside0 (upd (L ++ R) 0 0 1 (ev BW L + y) = upd (L ++ R) 0 0 (k + 1) (ev BW L + y)) := ⟨upd_same (by omega) (fun j h1 h2 _ => cy_rest hok (by rw [← HC1.out]; exact hc) j h1 (by omega)) (by omega)⟩
    have HF : Aside0 (cy L y (k + 1) = 0) := ⟨cy_zero hok (by rw [← HC1.out]; exact hc) _ (by omega)⟩
    obtain ⟨a, ha⟩ : ∃ a, a = (x + y) % BW := ⟨_, rfl⟩
    rw [← ha] at H0
    have hA' : ∀ w : World, Calls Tryz.prog 135 #[.int .u64 x, .int .u64 y, .int .u64 0] w fun e w' => e = .returned (.tuple #[.int .u64 a, .int .u64 0]) ∧ w = w' := fun w => by
      have := hA w hg.1 hxy.1
      rw [← ha, hc] at this
      exact this
    have HA := Aside0.mk hA'
    clear hA hA' ha hc hx hok e0 hz hn hc1 HC1 HD0 hg hxy hy
    go_enter Tryz.func113, Tryz.ntmps113
    go_wp2_with (go_at_call 135; refine (HA.out _).mono ?_; rintro e w' ⟨rfl, rfl⟩)
    go_region
    go_wp2_with (fail)
    go_ret
    refine ⟨by rw [HF.out]; rfl, ?_, ((Kept.refl (On mz) w).setCell (p := ⟨mz, 0, none⟩) (.inl rfl) _).drew⟩
    rw [hp_drew, H0.out _ HZ.out, HE.out]
  · have hc1' : (x + y) / BW = 1 := by have := hc1.2.2 (by omega); rw [← HC1.out] at this; have := hc1.1; rw [← HC1.out] at this; omega
    have HCY : Aside0 (cy L y 1 = 1) := ⟨by rw [← HC1.out]; exact hc1'⟩
    obtain ⟨a, ha⟩ : ∃ a, a = (x + y) % BW := ⟨_, rfl⟩
    rw [← ha] at H0
    have hA' : ∀ w : World, Calls Tryz.prog 135 #[.int .u64 x, .int .u64 y, .int .u64 0] w fun e w' => e = .returned (.tuple #[.int .u64 a, .int .u64 1]) ∧ w = w' := fun w => by
      have := hA w hg.1 hxy.1
      rw [← ha, hc1'] at this
      exact this
    have HA := Aside0.mk hA'
    have HM : Aside0 (∀ j, j < k + 1 → cy L y j = 1 → L.getD j 0 ≠ 18446744073709551615 → cy L y (j + 1) = 0 ∧ dg (ev BW L + y) j = L.getD j 0 + 1 ∧ L.getD j 0 + 1 < 18446744073709551616 ∧ 0 ≤ L.getD j 0) := ⟨fun j hj hcj hne => by
      have hgj := okd_get hok BW_pos j
      have e1 := BW_def
      refine ⟨?_, ?_, by omega, hgj.1⟩
      · show (L.getD j 0 + cy L y j) / BW = 0
        rw [hcj, Int.ediv_eq_zero_of_lt (by omega) (by omega)]
      · rw [cy_dg hok, hcj, Int.emod_eq_of_lt (by omega) (by omega)]⟩
    have HM2 : Aside0 (∀ j, j < k + 1 → cy L y j = 1 → L.getD j 0 = 18446744073709551615 → cy L y (j + 1) = 1 ∧ dg (ev BW L + y) j = 0) := ⟨fun j hj hcj he => by
      have e1 := BW_def
      constructor
      · show (L.getD j 0 + cy L y j) / BW = 1
        rw [hcj, he, e1]; rfl
      · rw [cy_dg hok, hcj, he, e1]; rfl⟩
    have HL : Aside0 (∀ j, j < k + 1 → (L ++ R).getD j 0 = L.getD j 0) := ⟨fun j hj => by simp only [List.getD_eq_getElem?_getD]; rw [List.getElem?_append_left (by omega)]⟩
    clear hA hA' ha hc hx hok e0 hz hn hc1 HC1 HD0 hg hxy hy hc1'
    go_enter Tryz.func113, Tryz.ntmps113
    go_wp2_with (go_at_call 135; refine (HA.out _).mono ?_; rintro e w' ⟨rfl, rfl⟩)
    go_loopw [9] (fun v9 wr => ∃ i : Nat, 0 < i ∧ i ≤ k + 1 ∧ v9 = .int .i64 (i : Int) ∧ Aside0 (cy L y i = 1) ∧ Aside0 (hp wr mz = some (.cells (u64s (upd (L ++ R) 0 0 i (ev BW L + y))) t (0, 0))) ∧ Aside0 (Kept (On mz) w wr)) (fun v _ => k + 1 - (intOf v).toNat)
    case atStart => exact ⟨1, by omega, by omega, rfl, HCY, ⟨H0.out _ HZ.out⟩, ⟨(Kept.refl (On mz) w).setCell (p := ⟨mz, 0, none⟩) (.inl rfl) _⟩⟩
    case round =>
      obtain ⟨i, hi0, hi, rfl, HCI, HO, HK⟩ := hrel
      by_cases hik : i = k + 1
      · subst hik
        go_wp2_with (fail)
        go_ret
        exact ⟨by rw [HCI.out]; rfl, HO.out, HK.out⟩
      · have hx1 := (blk_cell HO.out i).trans (u64s_get _ i (by rw [upd_len]; omega))
        rw [upd_get _ _ _ _ _ _ (by omega), if_neg (by omega), HL.out i (by omega)] at hx1
        have hf1 := blk_frozen HO.out i
        have hfz := blk_frozen HO.out 0
        obtain ⟨z, hz⟩ : ∃ z, z = L.getD i 0 := ⟨_, rfl⟩
        rw [← hz] at hx1
        have hlt : i < k + 1 := by omega
        by_cases hm : z = 18446744073709551615
        · have h2 := HM2.out i hlt HCI.out (by rw [← hz]; exact hm)
          have HC2 := Aside0.mk h2.1
          have HO2 : Aside0 (hp (wr.setCell ⟨mz, i, none⟩ (.int .u64 0)) mz = some (.cells (u64s (upd (L ++ R) 0 0 (i + 1) (ev BW L + y))) t (0, 0))) := ⟨by
            rw [hp_here _ _ _ _ _ rfl, HO.out]
            simp only [Option.map_some, setObj_cells, u64s_set]
            have hu := upd_up (L ++ R) 0 0 i (ev BW L + y) (Nat.zero_le _) (by omega)
            rw [h2.2, Nat.zero_add] at hu
            rw [hu]⟩
          subst hm
          clear h2 hz hik hi HCI
          go_wp2_with (fail)
          go_roundw
          case rel => exact ⟨i + 1, by omega, by omega, by simp, HC2, HO2, ⟨HK.out.setCell (p := ⟨mz, i, none⟩) (.inl rfl) _⟩⟩
          case measure => simp [intOf]; omega
        · have h2 := HM.out i hlt HCI.out (by rw [← hz]; exact hm)
          have HF : Aside0 (cy L y (k + 1) = 0) := ⟨cy_zero HOK.out h2.1 _ (by omega)⟩
          have HO2 : Aside0 (hp (wr.setCell ⟨mz, i, none⟩ (.int .u64 (z + 1))) mz = some (.cells (u64s (upd (L ++ R) 0 0 (k + 1) (ev BW L + y))) t (0, 0))) := ⟨by
            rw [hp_here _ _ _ _ _ rfl, HO.out]
            simp only [Option.map_some, setObj_cells, u64s_set]
            have hu := upd_up (L ++ R) 0 0 i (ev BW L + y) (Nat.zero_le _) (by omega)
            rw [h2.2.1, ← hz, Nat.zero_add] at hu
            rw [hu, upd_same (n := k + 1) (by omega) (fun j h3 h4 _ => cy_rest HOK.out h2.1 j h3 (by have := HN.out; omega)) (by omega)]⟩
          have hzb : (z != 18446744073709551615) = true := by rw [bne_iff_ne]; exact hm
          have hzb2 : (z == 18446744073709551615) = false := by rw [beq_eq_false_iff_ne]; exact hm
          have hzr : 0 ≤ z ∧ z + 1 < 18446744073709551616 := by rw [hz]; exact ⟨h2.2.2.2, h2.2.2.1⟩
          have hzw : IntKind.u64.wrap (z + 1) = z + 1 := by rw [IntKind.wrap_u64]; omega
          have HZR := Aside0.mk hzr
          clear h2 hz hik hi HCI hm hzr
          go_wp2_with (fail)
          go_region
          go_wp2_with (fail)
          go_ret
          exact ⟨by rw [HF.out]; rfl, by rw [hp_drew]; exact HO2.out, (HK.out.setCell (p := ⟨mz, i, none⟩) (.inl rfl) _).drew⟩
end Go.Proofs.YtfnknldbjckgoaaGreatDoor.Sp
end
