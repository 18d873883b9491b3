/-
  THE REFERENCE's NATURAL NUMBERS, by value: 'Dg w v n': the slice v reads as the digits of n. Contracts of the reference's functions in these words.
-/
import Derived.Test.YtapofoipfdjfhaaSBit
namespace Go.Proofs.Ytapofoipfdjfhaa.Sp
open Go.RowKit Go.Proofs.YtapofoipfdjfhaaW.PrintWords Go.Proofs.YtapofoipfdjfhaaW.PrintLast Go.Proofs.YtapofoipfdjfhaaW.PrintMore Go.Proofs.Ytapofoipfdjfhaa.Dig
set_option linter.unusedVariables false
set_option linter.unusedSimpArgs false

/-- The slice v reads as the digits (to the base 65536, canonical) of n. -/
def Dg (w : World) (v : Value) (n : Int) : Prop := ∃ A c l, v = .slice A l.length c ∧ l.length ≤ c ∧ Kd.C (Kd.int .i64) w A l.length l ∧ Cn BH l ∧ ev BH l = n
/-- The slice v reads as the words (to the base 2^64, canonical) of n. -/
def Wd (w : World) (v : Value) (n : Int) : Prop := ∃ A c l, v = .slice A l.length c ∧ l.length ≤ c ∧ Kd.C (Kd.int .u64) w A l.length l ∧ Cn BW l ∧ ev BW l = n
/-- The slice v reads as words l (whatever they are). -/
def Ws (w : World) (v : Value) (l : List Int) : Prop := ∃ A c, v = .slice A l.length c ∧ l.length ≤ c ∧ Kd.C (Kd.int .u64) w A l.length l ∧ okd BW l
theorem Dg.below {w w1 : World} {v : Value} {n : Int} (h : Dg w v n) (hb : Below w.heap.size w w1) : Dg w1 v n := by
  obtain ⟨A, c, l, h1, h2, h3, h4⟩ := h
  exact ⟨A, c, l, h1, h2, Kd.C_below h3 hb, h4⟩
theorem Wd.below {w w1 : World} {v : Value} {n : Int} (h : Wd w v n) (hb : Below w.heap.size w w1) : Wd w1 v n := by
  obtain ⟨A, c, l, h1, h2, h3, h4⟩ := h
  exact ⟨A, c, l, h1, h2, Kd.C_below h3 hb, h4⟩
theorem Ws.below {w w1 : World} {v : Value} {l : List Int} (h : Ws w v l) (hb : Below w.heap.size w w1) : Ws w1 v l := by
  obtain ⟨A, c, h1, h2, h3, h4⟩ := h
  exact ⟨A, c, h1, h2, Kd.C_below h3 hb, h4⟩
theorem Dg.slice {w : World} {v : Value} {n : Int} (h : Dg w v n) : ∃ A m c, v = .slice A m c := by
  obtain ⟨A, c, l, h1, _⟩ := h
  exact ⟨A, _, c, h1⟩
theorem Wd.ws {w : World} {v : Value} {n : Int} (h : Wd w v n) : ∃ l, Ws w v l ∧ Cn BW l ∧ ev BW l = n := by
  obtain ⟨A, c, l, h1, h2, h3, h4, h5⟩ := h
  exact ⟨l, ⟨A, c, h1, h2, h3, h4.ok⟩, h4, h5⟩
theorem Dg.nonneg {w : World} {v : Value} {n : Int} (h : Dg w v n) : 0 ≤ n := by
  obtain ⟨A, c, l, h1, h2, h3, h4, h5⟩ := h
  rw [← h5]
  exact ev_nonneg h4.ok BH_pos
theorem Dg.of_V {w : World} {v : Value} {r : List Int} {n : Int} {e base : Nat} {ok : Nat → Prop} (h : Kd.V (Kd.int .i64) e w base ok v r) (hc : Cn BH r) (he : ev BH r = n) : Dg w v n := by
  obtain ⟨A, c, h1, h2, h3⟩ := h
  exact ⟨A, c, r, h1, h2, Kd.F_now h3, hc, he⟩
theorem Dg.of_R {w : World} {v : Value} {r : List Int} {n : Int} {e base : Nat} {ok : Nat → Prop} (h : Kd.R (Kd.int .i64) e w base ok v r) (hc : Cn BH r) (he : ev BH r = n) : Dg w v n := by
  obtain ⟨A, c, h1, h2, h3⟩ := Kd.R_reads h
  exact ⟨A, c, r, h1, h2, h3, hc, he⟩
/-- What is read is read in every world in which the old blocks are as they were. -/
theorem V_of_C {w : World} {k : IntKind} {A : Option Addr} {c : Nat} {l : List Int} {e base : Nat} (h : Kd.C (Kd.int k) w A l.length l) (hl : l.length ≤ c) : Kd.V (Kd.int k) e w base (fun _ => True) (.slice A l.length c) l := by
  refine Kd.V_mk hl (fun W' hW' => ?_)
  obtain ⟨h1, h2, h3⟩ := h
  refine ⟨h1, h2, fun h0 => ?_⟩
  obtain ⟨ad, e, hc⟩ := h3 h0
  refine ⟨ad, e, fun j p hj => ?_⟩
  obtain ⟨cs, g1, g2, g3⟩ := hc j p hj
  refine ⟨cs, g1, g2, fun i u hu => ?_⟩
  have g4 := g3 i u hu
  have g5 := World.block_lt_of_cell? w _ g4
  rw [← g4]
  exact World.cell?_of_block (hW' _ trivial g5)

/-- A store to a cell that holds no number changes no row of numbers. -/
theorem C_set {w : World} {k : IntKind} {A : Option Addr} {l : List Int} (h : Kd.C (Kd.int k) w A l.length l) {p : Addr} {u : Value} (hu : w.cell? p = some u) (hn : ∀ k x, u ≠ .int k x) (u' : Value) : Kd.C (Kd.int k) (w.setCell p u') A l.length l := by
  obtain ⟨h1, h2, h3⟩ := h
  refine ⟨h1, h2, fun h0 => ?_⟩
  obtain ⟨ad, e, hc⟩ := h3 h0
  refine ⟨ad, e, fun j q hj => ?_⟩
  obtain ⟨cs, g1, g2, g3⟩ := hc j q hj
  refine ⟨cs, g1, g2, fun i v hv => ?_⟩
  have g4 := g3 i v hv
  rw [World.cell?_setCell_other _ _ _ _ ?_]
  · exact g4
  · intro e2
    have g5 : cs = [.int k q] := g2
    rw [g5] at hv
    have hv2 : v = .int k q := by
      cases i with
      | zero => simpa using hv.symm
      | succ i => simp at hv
    rw [← e2, hu, hv2] at g4
    exact hn _ _ (Option.some.inj g4)
theorem Dg.set {w : World} {v : Value} {n : Int} (h : Dg w v n) {p : Addr} {u : Value} (hu : w.cell? p = some u) (hn : ∀ k x, u ≠ .int k x) (u' : Value) : Dg (w.setCell p u') v n := by
  obtain ⟨A, c, l, h1, h2, h3, h4⟩ := h
  exact ⟨A, c, l, h1, h2, C_set h3 hu hn u', h4⟩
theorem Wd.set {w : World} {v : Value} {n : Int} (h : Wd w v n) {p : Addr} {u : Value} (hu : w.cell? p = some u) (hn : ∀ k x, u ≠ .int k x) (u' : Value) : Wd (w.setCell p u') v n := by
  obtain ⟨A, c, l, h1, h2, h3, h4⟩ := h
  exact ⟨A, c, l, h1, h2, C_set h3 hu hn u', h4⟩
theorem Ws.set {w : World} {v : Value} {l : List Int} (h : Ws w v l) {p : Addr} {u : Value} (hu : w.cell? p = some u) (hn : ∀ k x, u ≠ .int k x) (u' : Value) : Ws (w.setCell p u') v l := by
  obtain ⟨A, c, h1, h2, h3, h4⟩ := h
  exact ⟨A, c, h1, h2, C_set h3 hu hn u', h4⟩

/-- A bound on the numbers, far above all that the laws meet. -/
def Lim : Int := BH ^ 100000
theorem Lim_def : Lim = BH ^ 100000 := rfl
attribute [irreducible] Lim
theorem lt_Lim {n : Int} (k : Nat) (h : n < 2 ^ k) (hk : k ≤ 1600000) : n < Lim := by
  have h1 : (2 : Int) ^ k ≤ 2 ^ (16 * 100000) := pow_mono (by omega) (by omega)
  rw [Int.pow_mul, ← BH_two, ← Lim_def] at h1
  omega
theorem Lim_len {l : List Int} (h : Cn BH l) (hl : ev BH l < Lim) : l.length ≤ 100000 := by
  rw [Lim_def] at hl
  exact Cn_len_le h BH_gt _ hl

theorem small_c (n : Int) (h0 : 0 ≤ n) (h1 : n ≤ 1099511627775) (w : World) : Calls Try.prog 8 #[.int .i64 n] w fun e w' => ∃ v, e = .returned v ∧ Dg w' v n ∧ Below w.heap.size w w' := by
  obtain ⟨r, ⟨K, hK⟩, hc, he⟩ := small_ev n h0 h1
  refine (spec_Small.calls K n r w (hK K (Nat.le_refl _))).mono ?_
  rintro e w' ⟨v, rfl, hv, hb⟩
  exact ⟨v, rfl, Dg.of_R hv hc he, hb⟩
theorem of_c (v : Value) (l : List Int) (w : World) (h : Ws w v l) (hl : l.length ≤ 1000000) : Calls Try.prog 9 #[v] w fun e w' => ∃ v, e = .returned v ∧ Dg w' v (ev BW l) ∧ Below w.heap.size w w' := by
  obtain ⟨A, c, rfl, h2, h3, h4⟩ := h
  obtain ⟨K, hK⟩ := of_ev l (by rw [BW_def] at *; exact h4) (by omega)
  refine (spec_Of.calls K A c l (of16 l) w h3 h2 (hK K (Nat.le_refl _))).mono ?_
  rintro e w' ⟨v, rfl, hv, hb⟩
  exact ⟨v, rfl, Dg.of_V hv (of16_cn l) (of16_ev l h4), hb⟩
theorem cmp_c (v u : Value) (a b : Int) (w : World) (h : Dg w v a) (h' : Dg w u b) (ha : a < Lim) : Calls Try.prog 48 #[v, u] w fun e w' => e = .returned (.int .i64 (cmpI a b)) ∧ Below w.heap.size w w' := by
  obtain ⟨A, c, l, rfl, h2, h3, h4, h5⟩ := h
  obtain ⟨A', c', l', rfl, h2', h3', h4', h5'⟩ := h'
  subst h5 h5'
  have := Lim_len h4 ha
  obtain ⟨K, hK⟩ := cmp_ev l l' h4 h4' (by omega)
  refine (spec_Cmp.calls K A c l A' c' l' _ w h3 h2 h3' h2' (hK K (Nat.le_refl _))).mono ?_
  rintro e w' ⟨rfl, hb⟩
  exact ⟨rfl, hb.below⟩
theorem len_c (v : Value) (a : Int) (w : World) (h : Dg w v a) (ha : a < Lim) : Calls Try.prog 56 #[v] w fun e w' => ∃ n : Nat, e = .returned (.int .i64 n) ∧ Bits a n ∧ n ≤ 1600000 ∧ Below w.heap.size w w' := by
  obtain ⟨A, c, l, rfl, h2, h3, h4, h5⟩ := h
  subst h5
  have := Lim_len h4 ha
  obtain ⟨n, hn, ⟨K, hK⟩, hle⟩ := len_ev l h4 (by omega)
  refine (spec_Len.calls K A c l _ w h3 h2 (hK K (Nat.le_refl _))).mono ?_
  rintro e w' ⟨rfl, hb⟩
  exact ⟨n, rfl, hn, by omega, hb.below⟩
theorem dig_c (v : Value) (a D : Int) (w : World) (h : Dg w v a) (ha : a < Lim) (hD0 : 0 < D) (hD1 : D < 65536) : Calls Try.prog 55 #[v, .int .i64 D] w fun e w' => ∃ v, e = .returned (.tuple #[v, .int .i64 (a % D)]) ∧ Dg w' v (a / D) ∧ Below w.heap.size w w' := by
  obtain ⟨A, c, l, rfl, h2, h3, h4, h5⟩ := h
  subst h5
  have := Lim_len h4 ha
  obtain ⟨q, r, ⟨K, hK⟩, hc, he, r0, r1⟩ := dig_ev l h4 (by omega) D hD0 hD1
  refine (spec_byDigit.calls K A c l D q r w h3 h2 (hK K (Nat.le_refl _))).mono ?_
  rintro e w' ⟨v, rfl, hv, hb⟩
  have e1 : ev BH l / D = ev BH q := by rw [he, Int.add_comm, Int.add_mul_ediv_right _ _ (by omega), Int.ediv_eq_zero_of_lt r0 r1, Int.zero_add]
  have e2 : ev BH l % D = r := by rw [he, Int.add_comm, Int.add_mul_emod_self_right, Int.emod_eq_of_lt r0 r1]
  exact ⟨v, by rw [e2], Dg.of_V hv hc e1.symm, hb⟩
theorem add_c (v u : Value) (a b : Int) (w : World) (h : Dg w v a) (h' : Dg w u b) (ha : a < Lim) (hb : b < Lim) : Calls Try.prog 59 #[v, u] w fun e w' => ∃ v, e = .returned v ∧ Dg w' v (a + b) ∧ Below w.heap.size w w' := by
  obtain ⟨A, c, l, rfl, h2, h3, h4, h5⟩ := h
  obtain ⟨A', c', l', rfl, h2', h3', h4', h5'⟩ := h'
  subst h5 h5'
  have := Lim_len h4 ha
  have := Lim_len h4' hb
  obtain ⟨r, ⟨K, hK⟩, hc, he⟩ := add_ev l l' h4.ok h4'.ok (by omega) (by omega)
  refine (spec_Add.calls K A c l A' c' l' r w h3 h2 h3' h2' (hK K (Nat.le_refl _))).mono ?_
  rintro e w' ⟨v, rfl, hv, hb⟩
  exact ⟨v, rfl, Dg.of_V hv hc he, hb⟩
theorem sub_c (v u : Value) (a b : Int) (w : World) (h : Dg w v a) (h' : Dg w u b) (ha : a < Lim) (hb : b ≤ a) : Calls Try.prog 58 #[v, u] w fun e w' => ∃ v, e = .returned v ∧ Dg w' v (a - b) ∧ Below w.heap.size w w' := by
  obtain ⟨A, c, l, rfl, h2, h3, h4, h5⟩ := h
  obtain ⟨A', c', l', rfl, h2', h3', h4', h5'⟩ := h'
  subst h5 h5'
  have := Lim_len h4 ha
  obtain ⟨r, ⟨K, hK⟩, hc, he⟩ := sub_ev l l' h4 h4' (by omega) hb
  refine (spec_Sub.calls K A c l A' c' l' r w h3 h2 h3' h2' (hK K (Nat.le_refl _))).mono ?_
  rintro e w' ⟨v, rfl, hv, hb⟩
  exact ⟨v, rfl, Dg.of_V hv hc he, hb⟩
theorem bit_c (n : Int) (h0 : 0 ≤ n) (h1 : n ≤ 1000000000) (w : World) : Calls Try.prog 60 #[.int .i64 n] w fun e w' => ∃ v, e = .returned v ∧ Dg w' v (2 ^ n.toNat) ∧ Below w.heap.size w w' := by
  have e : n = ((16 * (n.toNat / 16) + n.toNat % 16 : Nat) : Int) := by omega
  have e2 : 16 * (n.toNat / 16) + n.toNat % 16 = n.toNat := by omega
  have h := bit_any (n.toNat / 16) (n.toNat % 16) (by omega) (by omega) w
  rw [← e, e2] at h
  refine h.mono ?_
  rintro e w' ⟨r, v, rfl, hv, hc, he, hb⟩
  exact ⟨v, rfl, Dg.of_V hv hc he, hb⟩
theorem shl_c (v : Value) (a n : Int) (w : World) (h : Dg w v a) (ha : a < Lim) (h0 : 0 ≤ n) (h1 : n ≤ 1000000000) : Calls Try.prog 57 #[v, .int .i64 n] w fun e w' => ∃ v, e = .returned v ∧ Dg w' v (a * 2 ^ n.toNat) ∧ Below w.heap.size w w' := by
  obtain ⟨A, c, l, rfl, h2, h3, h4, h5⟩ := h
  subst h5
  have := Lim_len h4 ha
  have e : n = ((16 * (n.toNat / 16) + n.toNat % 16 : Nat) : Int) := by omega
  have e2 : 16 * (n.toNat / 16) + n.toNat % 16 = n.toNat := by omega
  have h := shl_any (fun _ => True) A c l (n.toNat / 16) (n.toNat % 16) (by omega) (by omega) h4 (by omega) w (V_of_C h3 h2)
  rw [← e, e2] at h
  refine h.mono ?_
  rintro e w' ⟨r, v, rfl, hv, hc, he, hb⟩
  exact ⟨v, rfl, Dg.of_V hv hc he, hb⟩
/-- Words against digits: true just where they are the canonical words of the number. -/
theorem has_c (v u : Value) (x : List Int) (n : Int) (w : World) (h : Ws w v x) (h' : Dg w u n) (hn : n < Lim) : Calls Try.prog 37 #[v, u] w fun e w' => ∃ b, e = .returned (.bool b) ∧ (b = true ↔ Cn BW x ∧ ev BW x = n) ∧ Below w.heap.size w w' := by
  obtain ⟨A, c, rfl, h2, h3, h4⟩ := h
  obtain ⟨A', c', l', rfl, h2', h3', h4', h5'⟩ := h'
  subst h5'
  have := Lim_len h4' hn
  obtain ⟨r, hc, he, ⟨K, hK⟩⟩ := has_ev x l' h4' (by omega)
  refine (spec_HasWords.calls K A c x A' c' l' _ w h3 h2 h3' h2' (hK K (Nat.le_refl _))).mono ?_
  rintro e w' ⟨rfl, hb⟩
  refine ⟨_, rfl, ?_, hb⟩
  rw [decide_eq_true_iff]
  constructor
  · rintro rfl
    exact ⟨hc, he⟩
  · rintro ⟨k1, k2⟩
    exact Cn_inj k1 hc BW_pos (k2.trans he.symm)
end Go.Proofs.Ytapofoipfdjfhaa.Sp
