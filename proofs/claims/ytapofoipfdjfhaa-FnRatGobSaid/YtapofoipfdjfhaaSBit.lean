/-
  CONTRACTS of the reference's functions that the print does not give: Bit, Shl.
-/
import Derived.Test.YtapofoipfdjfhaaSpecC
namespace Go.Proofs.Ytapofoipfdjfhaa.Sp
open Go.RowKit Go.Proofs.YtapofoipfdjfhaaW.PrintWords Go.Proofs.YtapofoipfdjfhaaW.PrintLast Go.Proofs.YtapofoipfdjfhaaW.PrintMore Go.Proofs.Ytapofoipfdjfhaa.Dig
set_option linter.unusedVariables false
set_option linter.unusedSimpArgs false

theorem madeCells_one (z : Value) (n : Nat) : madeCells #[z] n = Array.replicate n z := by
  apply Array.ext
  · simp [madeCells]
  · intro i h1 h2
    simp [madeCells, Nat.mod_one]
theorem make_ints (t e : TypeId) (k : IntKind) (bytes : Nat) (ht : Try.prog.underlying t = some (.slice e)) (hinfo : (Try.prog.info? e).map (fun i => (i.zero, i.size, i.bytes)) = some (some (.int k 0), 1, bytes)) (hb : 0 < bytes) (n m : Int) (h0 : 0 ≤ n) (hnm : n ≤ m) (hm : m.toNat * bytes ≤ 281474976710656) (W : World) :
    (Instr.makeSlice t (.int .i64 n) (.int .i64 m)).run Try.prog W = .ok (.slice (some ⟨W.heap.size, 0, none⟩) n.toNat m.toNat) (W.alloc (.cells (Array.replicate m.toNat (.int k 0)) e)) := by
  obtain ⟨i0, hi, hz0, hz1, hz2⟩ := info_parts hinfo
  obtain ⟨n, rfl⟩ := Int.eq_ofNat_of_zero_le h0
  obtain ⟨m, rfl⟩ := Int.eq_ofNat_of_zero_le (show 0 ≤ m by omega)
  have h1 : m ≤ 281474976710656 := Nat.le_trans (Nat.le_mul_of_pos_right _ hb) (by rw [Int.toNat_natCast] at hm; exact hm)
  have h := run_make (P := Try.prog) W t e i0 (.int k 0) ht hi hz0 .i64 .i64 n m (by omega) (by omega) (by rw [hz2, Int.mul_comm, ← Int.natCast_mul]; rw [Int.toNat_natCast] at hm; omega) (by omega)
  rw [h, hz1, Nat.mul_one, show (Value.int k 0).cells = #[.int k 0] from rfl, madeCells_one]

set_option maxHeartbeats 800000 in
set_option maxRecDepth 100000 in
theorem bit_any (q s : Nat) (hs : s < 16) (hq : q ≤ 1000000000) (w : World) :
    Calls Try.prog 60 #[.int .i64 ((16 * q + s : Nat) : Int)] w fun e w' => ∃ r v, e = .returned v ∧ Kd.V (Kd.int .i64) 3 w' w.heap.size (fun k => w.heap.size ≤ k) v r ∧ Cn BH r ∧ ev BH r = 2 ^ (16 * q + s) ∧ Below w.heap.size w w' := by
  obtain ⟨i, hi⟩ : ∃ i : Int, i = ((16 * q + s : Nat) : Int) := ⟨_, rfl⟩
  rw [← hi]
  have d1 : i / 16 = (q : Int) := by omega
  have d2 : i % 16 = (s : Int) := by omega
  have d3 : 0 ≤ i := by omega
  have d4 : i ≤ 16000000015 := by omega
  clear hi
  have d5 : IntKind.i64.wrap ((q : Int) + 1) = ((q + 1 : Nat) : Int) := by rw [IntWalk.i64_in _ (by omega)]; omega
  have hmk := make_ints 32 3 .i64 8 Try.underlying32 info3 (by omega) ((q : Int) + 1) ((q : Int) + 1) (by omega) (by omega) (by omega)
  have d6 : (((q : Int) + 1).toNat) = q + 1 := by omega
  have d7 : (q : Int) < ((q + 1 : Nat) : Int) := by omega
  go_enter Try.func60, Try.ntmps60
  go_wp2
  go_ret
  have hp2 : (2 : Int) ^ s ≤ 2 ^ 15 := pow_mono (by omega) (by omega)
  have hp0 : (0 : Int) < 2 ^ s := Int.pow_pos (by omega)
  have h15 : (2 : Int) ^ 15 = 32768 := rfl
  have hw : wrap64 (2 ^ s) = 2 ^ s := w64 (by omega) (by omega)
  have hl : ((List.replicate q (0 : Int)) ++ [2 ^ s]).length = q + 1 := by simp
  refine ⟨List.replicate q 0 ++ [2 ^ s], _, rfl, ?_, ⟨okd_append.2 ⟨okd_replicate _ BH_pos, fun d hd => ?_⟩, fun d hd => ?_⟩, ?_, (Below.refl _ _).alloc (Nat.le_refl _) _⟩
  · refine blk_V (hp_new w _ _ rfl) hl (by omega) (Nat.le_refl _) (Nat.le_refl _) ?_
    intro i hi'
    rw [hw, Nat.zero_add, Array.getElem?_setIfInBounds]
    by_cases h : q = i
    · subst h
      simp
    · rw [if_neg h]
      simp [show i < q + 1 by omega, List.getD, List.getElem?_append, show i < q by omega]
  · simp at hd
    subst hd
    rw [BH_def]
    omega
  · simp at hd
    omega
  · rw [ev_snoc, ev_replicate, List.length_replicate, Int.pow_add, Int.pow_mul, BH_two]
    omega

/-! ### Shl -/
theorem low_lt (o : List Int) (q s : Nat) (hq : q < o.length) (hok : okd BH o) (h : ev BH o < BH ^ q * 2 ^ s) : o.getD q 0 < 2 ^ s := by
  have h1 := ev_mid BH o q hq
  have h2 := ev_nonneg (okd_take hok q) BH_pos
  have h4 := Int.mul_nonneg (Int.le_of_lt BH_pos) (ev_nonneg (okd_drop hok (q + 1)) BH_pos)
  have hp := pow_pos BH_pos q
  have h5 : BH ^ q * o.getD q 0 ≤ BH ^ q * (o.getD q 0 + BH * ev BH (o.drop (q + 1))) := Int.mul_le_mul_of_nonneg_left (by omega) (Int.le_of_lt hp)
  exact Int.lt_of_mul_lt_mul_left (show BH ^ q * o.getD q 0 < BH ^ q * 2 ^ s by omega) (Int.le_of_lt hp)
theorem modmul (x : Int) (s : Nat) (hs : s ≤ 16) : x * 2 ^ s % 65536 ≤ 65536 - 2 ^ s := by
  have e : (65536 : Int) = 2 ^ s * 2 ^ (16 - s) := by rw [← Int.pow_add, show s + (16 - s) = 16 by omega]; rfl
  have hp0 : (0 : Int) < 2 ^ s := Int.pow_pos (by omega)
  have hp1 : (0 : Int) < 2 ^ (16 - s) := Int.pow_pos (by omega)
  rw [e, Int.mul_comm x, Int.mul_emod_mul_of_pos _ _ hp0]
  have h1 := Int.emod_lt_of_pos x hp1
  have h2 : 2 ^ s * (x % 2 ^ (16 - s) + 1) ≤ 2 ^ s * 2 ^ (16 - s) := Int.mul_le_mul_of_nonneg_left (by omega) (Int.le_of_lt hp0)
  rw [Int.mul_add, Int.mul_one] at h2
  omega
theorem getD_set (l : List Int) (i j : Nat) (x : Int) : (l.set i x).getD j 0 = if i = j ∧ i < l.length then x else l.getD j 0 := by
  simp only [List.getD_eq_getElem?_getD, List.getElem?_set]
  by_cases h : i = j
  · subst h
    by_cases h2 : i < l.length
    · simp [h2]
    · simp [h2, List.getElem?_eq_none (show l.length ≤ i by omega)]
  · simp [h]
theorem shl_step (o l : List Int) (q s i : Nat) (hs : s < 16) (hi : i < l.length) (ho : o.length = q + l.length + 1) (hok : okd BH o) (hl : okd BH l) (he : ev BH o = BH ^ q * (ev BH (l.take i) * 2 ^ s)) (hz : ∀ j, q + i < j → o.getD j 0 = 0) :
    0 ≤ l.getD i 0 * 2 ^ s ∧ l.getD i 0 * 2 ^ s < 2147483648 ∧ 0 ≤ o.getD (q + i) 0 + l.getD i 0 * 2 ^ s % 65536 ∧ o.getD (q + i) 0 + l.getD i 0 * 2 ^ s % 65536 < 65536 ∧
      okd BH ((o.set (q + i) (o.getD (q + i) 0 + l.getD i 0 * 2 ^ s % 65536)).set (q + i + 1) (l.getD i 0 * 2 ^ s / 65536)) ∧
      ev BH ((o.set (q + i) (o.getD (q + i) 0 + l.getD i 0 * 2 ^ s % 65536)).set (q + i + 1) (l.getD i 0 * 2 ^ s / 65536)) = BH ^ q * (ev BH (l.take (i + 1)) * 2 ^ s) ∧
      ∀ j, q + (i + 1) < j → ((o.set (q + i) (o.getD (q + i) 0 + l.getD i 0 * 2 ^ s % 65536)).set (q + i + 1) (l.getD i 0 * 2 ^ s / 65536)).getD j 0 = 0 := by
  have hp2 : (2 : Int) ^ s ≤ 2 ^ 15 := pow_mono (by omega) (by omega)
  have hp0 : (0 : Int) < 2 ^ s := Int.pow_pos (by omega)
  have h15 : (2 : Int) ^ 15 = 32768 := rfl
  have hx := okd_get hl BH_pos i
  have hB := BH_def
  have hlo : o.getD (q + i) 0 < 2 ^ s := by
    refine low_lt o (q + i) s (by omega) hok ?_
    rw [he, Int.pow_add, Int.mul_assoc]
    refine Int.mul_lt_mul_of_pos_left ?_ (pow_pos BH_pos q)
    exact Int.mul_lt_mul_of_pos_right (ev_take_lt hl BH_pos i (by omega)).2 hp0
  have hlo0 := (okd_get hok BH_pos (q + i)).1
  have hm1 : l.getD i 0 * 2 ^ s ≤ 65535 * 2 ^ s := Int.mul_le_mul_of_nonneg_right (by omega) (Int.le_of_lt hp0)
  have hm0 : 0 ≤ l.getD i 0 * 2 ^ s := Int.mul_nonneg hx.1 (Int.le_of_lt hp0)
  have hmod := modmul (l.getD i 0) s (by omega)
  have hx2 : l.getD i 0 * 2 ^ s < 2147483648 := by omega
  have hz1 := hz (q + i + 1) (by omega)
  clear hp2 h15 hB
  generalize hX : l.getD i 0 * 2 ^ s = X at *
  have hlen1 : q + i < o.length := by omega
  refine ⟨hm0, hx2, by omega, by omega, ?_, ?_, ?_⟩
  · exact okd_set (okd_set hok _ (by omega) (by rw [BH_def]; omega)) _ (by omega) (by rw [BH_def]; omega)
  · rw [ev_set _ _ _ _ (by rw [List.length_set]; omega), ev_set _ _ _ _ hlen1, getD_set, if_neg (by omega), hz1, he, ev_take_succ _ _ _ hi, Int.pow_succ, Int.pow_add]
    have hqr := Int.emod_add_mul_ediv X 65536
    rw [← BH_def] at hqr ⊢
    clear hmod hz1 hz he hm0 hm1 hx2 hlo hlo0 hx hok hl ho hlen1 hi hs
    generalize X % BH = r at *
    generalize X / BH = d at *
    generalize ev BH (l.take i) = T at *
    generalize l.getD i 0 = x at *
    generalize o.getD (q + i) 0 = a at *
    generalize BH ^ q = P at *
    generalize BH ^ i = R at *
    generalize (2 : Int) ^ s = U at *
    subst hX
    clear hp0
    grind
  · intro j hj
    rw [getD_set, if_neg (by omega), getD_set, if_neg (by omega)]
    exact hz j (by omega)
/-- A block of numbers of 64 bits. -/
def i64s (l : List Int) : Array Value := (l.map (Value.int .i64)).toArray
theorem i64s_size (l : List Int) : (i64s l).size = l.length := by simp [i64s]
theorem i64s_get (l : List Int) (i : Nat) (h : i < l.length) : (i64s l)[i]? = some (.int .i64 (l.getD i 0)) := by
  simp [i64s, List.getD, List.getElem?_eq_getElem h]
theorem i64s_set (l : List Int) (i : Nat) (x : Int) : (i64s l).setIfInBounds i (.int .i64 x) = i64s (l.set i x) := by
  simp [i64s, List.map_set]
theorem i64s_rep (n : Nat) : Array.replicate n (Value.int .i64 0) = i64s (List.replicate n 0) := by
  simp [i64s]

set_option maxHeartbeats 1600000 in
set_option maxRecDepth 100000 in
theorem shl_any (P : Nat → Prop) (A : Option Addr) (c : Nat) (l : List Int) (q s : Nat) (hs : s < 16) (hq : q ≤ 1000000000) (hl : Cn BH l) (hlen : l.length ≤ 1000000000) (w : World) (hv : Kd.V (Kd.int .i64) 3 w w.heap.size P (.slice A l.length c) l) :
    Calls Try.prog 57 #[.slice A l.length c, .int .i64 ((16 * q + s : Nat) : Int)] w fun e w' => ∃ r v, e = .returned v ∧ Kd.V (Kd.int .i64) 3 w' w.heap.size (fun k => P k ∨ w.heap.size ≤ k) v r ∧ Cn BH r ∧ ev BH r = ev BH l * 2 ^ (16 * q + s) ∧ Below w.heap.size w w' := by
  have HV := Aside0.mk hv
  have HL := Aside0.mk hl
  clear hv hl
  by_cases h0 : l.length = 0
  · have hl : l = [] := List.eq_nil_of_length_eq_zero h0
    subst hl
    go_enter Try.func57, Try.ntmps57
    go_wp2
    go_ret
    exact ⟨[], _, rfl, Kd.V_mono HV.out (fun k hk => .inl hk), Cn_nil _, by rw [ev_nil]; simp, Below.refl _ _⟩
  · have hb0 : ((l.length : Int) == 0) = false := by simpa using h0
    obtain ⟨n, hn⟩ : ∃ n : Int, n = ((16 * q + s : Nat) : Int) := ⟨_, rfl⟩
    rw [← hn]
    have d1 : n / 16 = (q : Int) := by omega
    have d2 : n % 16 = (s : Int) := by omega
    have d3 : 0 ≤ n := by omega
    have d4 : n ≤ 16000000015 := by omega
    clear hn
    have hmk := make_ints 32 3 .i64 8 Try.underlying32 info3 (by omega) ((q : Int) + l.length + 1) ((q : Int) + l.length + 1) (by omega) (by omega) (by omega)
    have d6 : (((q : Int) + l.length + 1).toNat) = q + l.length + 1 := by omega
    go_enter Try.func57, Try.ntmps57
    go_wp2
    go_loopw [21] (fun v21 wr => ∃ (i : Int) (o : List Int), 0 ≤ i ∧ i ≤ l.length ∧ v21 = .int .i64 i ∧ Aside0 (hp wr w.heap.size = some (.cells (i64s o) 3 (0, 0)) ∧ o.length = q + l.length + 1 ∧ okd BH o ∧ ev BH o = BH ^ q * (ev BH (l.take i.toNat) * 2 ^ s) ∧ ∀ j, q + i.toNat < j → o.getD j 0 = 0) ∧ Aside0 (Below w.heap.size w wr)) (fun i _ => l.length - (intOf i).toNat)
    case atStart =>
      exact ⟨0, List.replicate (q + l.length + 1) 0, by omega, by omega, rfl, ⟨by rw [i64s_rep]; exact hp_new w _ _ rfl, by simp, okd_replicate _ BH_pos, by rw [ev_replicate]; simp [ev_nil], fun j _ => by simp [List.getD, List.getElem?_replicate]; split <;> rfl⟩, ⟨(Below.refl _ _).alloc (Nat.le_refl _) _⟩⟩
    case round =>
      obtain ⟨i, o, i0, i1, rfl, HO, HB⟩ := hrel
      by_cases hlt : i < l.length
      · obtain ⟨ad, e, hx⟩ := Kd.at_int (Kd.V_reads' HV.out).2.2 i i0 hlt
        cases e
        replace hx := (HB.out.cell (World.block_lt_of_cell? w _ hx)).trans hx
        obtain ⟨ho, hol, hok, he, hz⟩ := HO.out
        obtain ⟨m0, m1, a0, a1, k1, k2, k3⟩ := shl_step o l q s i.toNat hs (by omega) hol hok HL.out.ok he hz
        have c1 : wr.cell? ⟨w.heap.size, q + i.toNat, none⟩ = some (.int .i64 (o.getD (q + i.toNat) 0)) := (blk_cell ho _).trans (i64s_get o _ (by omega))
        have c2 : wr.cell? ⟨w.heap.size, q + i.toNat + 1, none⟩ = some (.int .i64 (o.getD (q + i.toNat + 1) 0)) := (blk_cell ho _).trans (i64s_get o _ (by omega))
        have f1 : wr.frozen? ⟨w.heap.size, q + i.toNat, none⟩ = false := blk_frozen ho _
        have f2 : wr.frozen? ⟨w.heap.size, q + i.toNat + 1, none⟩ = false := blk_frozen ho _
        have hrd : rd l i = l.getD i.toNat 0 := rfl
        obtain ⟨x, hxx⟩ : ∃ x, x = l.getD i.toNat 0 := ⟨_, rfl⟩
        rw [← hxx] at m0 m1 a0 a1 k1 k2 k3
        obtain ⟨X, hX⟩ : ∃ X, X = x * 2 ^ s := ⟨_, rfl⟩
        obtain ⟨a, ha⟩ : ∃ a, a = o.getD (q + i.toNat) 0 := ⟨_, rfl⟩
        rw [← hX] at m0 m1 a0 a1 k1 k2 k3
        rw [← ha] at a0 a1 k1 k2 k3 c1
        rw [hrd, ← hxx] at hx
        have wX : wrap64 (x * 2 ^ s) = X := by rw [← hX]; exact w64 (by omega) (by omega)
        have HO2 : Aside0 (hp ((wr.setCell ⟨w.heap.size, q + i.toNat, none⟩ (.int .i64 (a + X % 65536))).setCell ⟨w.heap.size, q + i.toNat + 1, none⟩ (.int .i64 (X / 65536))) w.heap.size = some (.cells (i64s ((o.set (q + i.toNat) (a + X % 65536)).set (q + i.toNat + 1) (X / 65536))) 3 (0, 0)) ∧
            ((o.set (q + i.toNat) (a + X % 65536)).set (q + i.toNat + 1) (X / 65536)).length = q + l.length + 1 ∧ okd BH ((o.set (q + i.toNat) (a + X % 65536)).set (q + i.toNat + 1) (X / 65536)) ∧ ev BH ((o.set (q + i.toNat) (a + X % 65536)).set (q + i.toNat + 1) (X / 65536)) = BH ^ q * (ev BH (l.take (i + 1).toNat) * 2 ^ s) ∧ ∀ j, q + (i + 1).toNat < j → ((o.set (q + i.toNat) (a + X % 65536)).set (q + i.toNat + 1) (X / 65536)).getD j 0 = 0) := by
          have e1 : (i + 1).toNat = i.toNat + 1 := by omega
          rw [e1]
          exact ⟨by rw [hp_here _ _ _ _ _ rfl, hp_here _ _ _ _ _ rfl, ho]; simp only [Option.map_some, setObj_cells, i64s_set], by simp [hol], k1, k2, k3⟩
        have HB2 := Aside0.mk ((HB.out.setCell (p := ⟨w.heap.size, q + i.toNat, none⟩) (Nat.le_refl _) (.int .i64 (a + X % 65536))).setCell (p := ⟨w.heap.size, q + i.toNat + 1, none⟩) (Nat.le_refl _) (.int .i64 (X / 65536)))
        have e3 : ((q : Int) + i).toNat = q + i.toNat := by omega
        have e4 : ((q : Int) + i + 1).toNat = q + i.toNat + 1 := by omega
        have b1 : (q : Int) + i < ((q + l.length + 1 : Nat) : Int) := by omega
        have b2 : (q : Int) + i + 1 < ((q + l.length + 1 : Nat) : Int) := by omega
        clear ho hol hok he hz k1 k2 k3 hX ha hrd HO hxx
        go_wp2
        go_roundw
        case rel => first | exact ⟨i + 1, _, by omega, by omega, rfl, HO2, HB2⟩ | fail
        case measure => simp [intOf]; omega
      · have hi : i.toNat = l.length := by omega
        obtain ⟨ho, hol, hok, he, hz⟩ := HO.out
        rw [hi, List.take_length] at he
        go_wp2_with (fail)
        obtain ⟨K, hK⟩ := trim_ev o (by omega)
        obtain ⟨s1, s2, _⟩ := strip_cn o hok
        have hvo : Kd.V (Kd.int .i64) 3 wr wr.heap.size (fun k => w.heap.size ≤ k) (.slice (some ⟨w.heap.size, 0, none⟩) o.length (q + l.length + 1)) o := blk_V ho rfl (by omega) (by omega) (Nat.le_refl _) (fun i hi => by rw [Nat.zero_add]; exact i64s_get o i hi)
        have hT := spec_trim.calls K (fun k => w.heap.size ≤ k) (some ⟨w.heap.size, 0, none⟩) (q + l.length + 1) o (strip o) wr hvo (hK K (Nat.le_refl _))
        rw [hol] at hT
        refine hT.mono ?_
        rintro e w1 ⟨v, rfl, hv1, hb1⟩
        have HE := Aside0.mk (show Cn BH (strip o) ∧ ev BH (strip o) = ev BH l * 2 ^ (16 * q + s) from ⟨s1, by rw [s2, he, Int.pow_add, Int.pow_mul, ← BH_two]; grind⟩)
        have HV1 := Aside0.mk hv1
        have HB1 := Aside0.mk (below_step HB.out hb1)
        have hsz := HB.out.size
        clear ho hol hok he hz hvo hK hv1 hb1 s1 s2 hT
        go_wp2_with (fail)
        go_ret
        exact ⟨_, _, rfl, Kd.V_mono (Kd.V_lower HV1.out hsz) (fun k hk => .inr (by omega)), HE.out.1, HE.out.2, HB1.out⟩
end Go.Proofs.Ytapofoipfdjfhaa.Sp
