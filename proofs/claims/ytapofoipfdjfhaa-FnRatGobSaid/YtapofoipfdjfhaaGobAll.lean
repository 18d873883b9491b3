/-
  MERGED BY PROGRAM (merge.py): Byt, Bytes, SetBytes, Rat, GobR, GobD, RatGob, OfFrac, LFrac.
-/
import Derived.Test.YtapofoipfdjfhaaDig
import Derived.Test.YtapofoipfdjfhaaImplOf
import Derived.Test.YtapofoipfdjfhaaSpBBeUint32
import Derived.Lib.EndianBits
import Derived.Test.YtapofoipfdjfhaaIn
/-! ## Byt -/
section
namespace Go.Proofs.Ytapofoipfdjfhaa.Dig
set_option linter.unusedVariables false
set_option linter.unusedSimpArgs false
def byt (d : Int) : Nat → List Int
  | 0 => []
  | k + 1 => byt d k ++ [d / 256 ^ k % 256]
def le : List Int → List Int
  | [] => []
  | d :: l => byt d 8 ++ le l
theorem byt_len (d : Int) (k : Nat) : (byt d k).length = k := by
  induction k with
  | zero => rfl
  | succ k ih => simp [byt, ih]
theorem byt_ok (d : Int) (k : Nat) : okd 256 (byt d k) := by
  induction k with
  | zero => exact okd_nil _
  | succ k ih => exact okd_append.2 ⟨ih, okd_cons.2 ⟨⟨Int.emod_nonneg _ (by omega), Int.emod_lt_of_pos _ (by omega)⟩, okd_nil _⟩⟩
theorem byt_ev (d : Int) (k : Nat) : ev 256 (byt d k) = d % 256 ^ k := by
  induction k with
  | zero => simp [byt, ev_nil]
  | succ k ih =>
    rw [byt, ev_snoc, ih, byt_len, Int.pow_succ]
    have h0 : (0 : Int) ≤ 256 ^ k := Int.le_of_lt (Int.pow_pos (by omega))
    rw [Int.emod_def d (256 ^ k * 256), Int.emod_def (d / 256 ^ k), Int.emod_def d, Int.ediv_ediv_of_nonneg h0]
    generalize (256 : Int) ^ k = a
    generalize d / (a * 256) = q
    generalize d / a = r
    grind
theorem le_append (l m : List Int) : le (l ++ m) = le l ++ le m := by
  induction l with
  | nil => rfl
  | cons d l ih => simp [le, ih]
theorem le_len (l : List Int) : (le l).length = 8 * l.length := by
  induction l with
  | nil => rfl
  | cons d l ih => simp [le, ih, byt_len]; omega
theorem le_ok (l : List Int) : okd 256 (le l) := by
  induction l with
  | nil => exact okd_nil _
  | cons d l ih => exact okd_append.2 ⟨byt_ok _ _, ih⟩
theorem le_ev (l : List Int) (h : okd BW l) : ev 256 (le l) = ev BW l := by
  induction l with
  | nil => rw [le, ev_nil, ev_nil]
  | cons d l ih =>
    have h1 := okd_cons.1 h
    have e : (256 : Int) ^ 8 = BW := by rw [BW_def]; rfl
    rw [le, ev_append, byt_len, byt_ev, ih h1.2, ev_cons, e, Int.emod_eq_of_lt h1.1.1 h1.1.2]
/-- The bytes bs laid into xs ahead of place L, the last one first. -/
def wrt (xs : List Int) (L : Nat) (bs : List Int) : List Int := xs.take (L - bs.length) ++ bs.reverse ++ xs.drop L
theorem wrt_nil (xs : List Int) (L : Nat) : wrt xs L [] = xs := by simp [wrt]
theorem wrt_len (xs : List Int) (L : Nat) (bs : List Int) (h : bs.length ≤ L) (hL : L ≤ xs.length) : (wrt xs L bs).length = xs.length := by
  simp [wrt]; omega
theorem wrt_set (xs : List Int) (L : Nat) (bs : List Int) (b : Int) (h : bs.length < L) (hL : L ≤ xs.length) : (wrt xs L bs).set (L - bs.length - 1) b = wrt xs L (bs ++ [b]) := by
  obtain ⟨y, hy⟩ : ∃ y, L - bs.length = y + 1 := ⟨L - bs.length - 1, by omega⟩
  have e1 : (xs.take (y + 1)) = xs.take y ++ [xs[y]'(by omega)] := List.take_succ_eq_append_getElem (by omega)
  have hyl : (xs.take y).length = y := by rw [List.length_take]; omega
  unfold wrt
  rw [List.length_append, List.length_singleton, show L - (bs.length + 1) = y by omega, hy, e1, Nat.add_sub_cancel]
  simp only [List.append_assoc, List.reverse_append, List.reverse_cons, List.reverse_nil, List.nil_append, List.singleton_append, List.cons_append]
  rw [List.set_append_right _ _ (by omega), hyl, Nat.sub_self, List.set_cons_zero]
theorem wrt_get (xs : List Int) (L : Nat) (bs : List Int) (i : Nat) (h : bs.length ≤ L) (hL : L ≤ xs.length) (hi : i < bs.length) : (wrt xs L bs).getD (L - 1 - i) 0 = bs.getD i 0 := by
  have hyl : (xs.take (L - bs.length)).length = L - bs.length := by rw [List.length_take]; omega
  unfold wrt
  simp only [List.getD_eq_getElem?_getD, List.append_assoc]
  rw [List.getElem?_append_right (by omega), hyl, List.getElem?_append_left (by simp; omega), List.getElem?_reverse (by omega)]
  congr 2
  omega
end Go.Proofs.Ytapofoipfdjfhaa.Dig
end

/-! ## Bytes -/
section
namespace Go.Proofs.Ytapofoipfdjfhaa.Sp
open Go.RowKit Go.Proofs.YtapofoipfdjfhaaW.PrintWords Go.Proofs.YtapofoipfdjfhaaW.PrintLast Go.Proofs.YtapofoipfdjfhaaW.PrintMore Go.Proofs.Ytapofoipfdjfhaa.Dig
set_option linter.unusedVariables false
set_option linter.unusedSimpArgs false
/-- A block of bytes. -/
def u8s (l : List Int) : Array Value := (l.map (Value.int .u8)).toArray
theorem u8s_size (l : List Int) : (u8s l).size = l.length := by simp [u8s]
theorem u8s_get (l : List Int) (i : Nat) (h : i < l.length) : (u8s l)[i]? = some (.int .u8 (l.getD i 0)) := by
  simp [u8s, List.getD, List.getElem?_eq_getElem h]
theorem u8s_set (l : List Int) (i : Nat) (x : Int) : (u8s l).setIfInBounds i (.int .u8 x) = u8s (l.set i x) := by
  simp [u8s, List.map_set]
theorem u8s_rep (n : Nat) : Array.replicate n (Value.int .u8 0) = u8s (List.replicate n 0) := by
  simp [u8s]
set_option maxHeartbeats 1600000 in
set_option maxRecDepth 100000 in
theorem bytes_c (A : Option Addr) (m c : Nat) (l : List Int) (g L cb : Nat) (xs : List Int) (tb : TypeId) (w0 w : World) (h : Ws w0 (.slice A m c) l) (hB : Below w0.heap.size w0 w) (hg : w0.heap.size ≤ g) (hb : hp w g = some (.cells (u8s xs) tb (0, 0))) (hL : L ≤ xs.length) (h8 : 8 * l.length ≤ L) (hbig : L ≤ 1000000) :
    Calls Try.prog 49 #[.slice A m c, .slice (some ⟨g, 0, none⟩) L cb] w fun e w' => e = .returned (.int .i64 ((L - (strip (le l)).length : Nat) : Int)) ∧ hp w' g = some (.cells (u8s (wrt xs L (le l))) tb (0, 0)) ∧ Below w0.heap.size w0 w' := by
  obtain ⟨A', c', e, h2, h3, h4⟩ := h
  injection e with e1 e2 e3
  subst e1 e2 e3
  have HR := Aside0.mk h3
  have HOK := Aside0.mk h4
  have HB0 := Aside0.mk hB
  have HG := Aside0.mk hb
  clear h3 h4 hB hb
  go_enter Try.func49, Try.ntmps49
  go_wp2_with (fail)
  go_loopw [4, 12] (fun v4 v12 wr => ∃ (q y : Nat), q ≤ l.length ∧ y + 8 * q = L ∧ v12 = .int .i64 (q : Int) ∧ v4 = .int .i64 (y : Int) ∧ Aside0 (hp wr g = some (.cells (u8s (wrt xs L (le (l.take q)))) tb (0, 0))) ∧ Aside0 (Below w0.heap.size w0 wr)) (fun _ v _ => l.length - (intOf v).toNat)
  case atStart => exact ⟨0, L, by omega, by omega, rfl, rfl, ⟨by rw [List.take_zero, le, wrt_nil]; exact HG.out⟩, HB0⟩
  case round =>
    obtain ⟨q, y, q0, q1, rfl, rfl, HO, HB⟩ := hrel
    by_cases hlt : q < l.length
    · obtain ⟨ad, e, hx⟩ := Kd.at_int HR.out (q : Int) (by omega) (by omega)
      cases e
      replace hx := (HB.out.cell (World.block_lt_of_cell? _ _ hx)).trans hx
      obtain ⟨x, hxx⟩ : ∃ x, x = l.getD q 0 := ⟨_, rfl⟩
      rw [show rd l (q : Int) = x by rw [hxx]; simp [rd]] at hx
      rw [Int.toNat_natCast] at hx
      go_wp2_with (fail)
      have hxok := okd_get HOK.out BW_pos q
      rw [← hxx, BW_def] at hxok
      go_loopw [4, 6, 7] (fun v4 v6 v7 wr => ∃ (j y' : Nat) (z : Int), j ≤ 8 ∧ y' + (8 * q + j) = L ∧ v4 = .int .i64 (y' : Int) ∧ v6 = .int .u64 z ∧ v7 = .int .i64 (j : Int) ∧ Aside0 (z = x / 256 ^ j) ∧ Aside0 (hp wr g = some (.cells (u8s (wrt xs L (le (l.take q) ++ byt x j))) tb (0, 0))) ∧ Aside0 (Below w0.heap.size w0 wr)) (fun _ _ v _ => 8 - (intOf v).toNat)
      case atStart => exact ⟨0, y, x, by omega, by omega, rfl, by rw [hxx]; simp [List.getD, hlt], rfl, ⟨by simp⟩, ⟨by rw [byt, List.append_nil]; exact HO.out⟩, HB⟩
      case round =>
        clear HO HB
        obtain ⟨j, y', z, j0, j1, rfl, rfl, rfl, HZ, HO, HB⟩ := hrel
        by_cases hj : j < 8
        · obtain ⟨y2, rfl⟩ : ∃ y2, y' = y2 + 1 := ⟨y' - 1, by omega⟩
          have hbl : (le (l.take q) ++ byt x j).length = 8 * q + j := by rw [List.length_append, le_len, byt_len, List.length_take]; omega
          have hwl := wrt_len xs L (le (l.take q) ++ byt x j) (by omega) hL
          have hc := (blk_cell HO.out y2).trans (u8s_get _ y2 (by omega))
          have hf := blk_frozen HO.out y2
          have HO2 : Aside0 (hp (wr.setCell ⟨g, y2, none⟩ (.int .u8 (z % 256))) g = some (.cells (u8s (wrt xs L (le (l.take q) ++ byt x (j + 1)))) tb (0, 0))) := by
            constructor
            rw [hp_here _ _ _ _ _ rfl, HO.out]
            simp only [Option.map_some, setObj_cells, u8s_set]
            rw [show y2 = L - (le (l.take q) ++ byt x j).length - 1 by omega, wrt_set _ _ _ _ (by omega) hL, byt, List.append_assoc, HZ.out]
          have HB2 := Aside0.mk (HB.out.setCell (p := ⟨g, y2, none⟩) hg (.int .u8 (z % 256)))
          have HZ2 := Aside0.mk (show z / 256 = x / 256 ^ (j + 1) by rw [HZ.out, Int.pow_succ, Int.ediv_ediv_of_nonneg (Int.le_of_lt (Int.pow_pos (by omega)))])
          have hz0 : 0 ≤ z := by rw [HZ.out]; exact Int.ediv_nonneg hxok.1 (Int.le_of_lt (Int.pow_pos (by omega)))
          clear HO HB HZ hbl hwl
          go_wp2_with (fail)
          go_roundw
          case rel => first | exact ⟨j + 1, y2, z / 256, by omega, by omega, rfl, rfl, by simp, HZ2, HO2, HB2⟩ | fail
          case measure => simp [intOf]; omega
        · obtain rfl : j = 8 := by omega
          have HO2 : Aside0 (hp wr g = some (.cells (u8s (wrt xs L (le (l.take (q + 1))))) tb (0, 0))) := by
            constructor
            rw [HO.out, List.take_succ_eq_append_getElem (by omega), le_append]
            simp only [le, List.append_nil]
            rw [show l[q] = x by rw [hxx]; simp [List.getD, hlt]]
          clear HO hxx
          go_wp2_with (fail)
          go_roundw
          case rel => first | exact ⟨q + 1, y', by omega, by omega, by simp, rfl, HO2, HB⟩ | fail
          case measure => simp [intOf]; omega
    · obtain rfl : q = l.length := by omega
      have HO2 : Aside0 (hp wr g = some (.cells (u8s (wrt xs L (le l))) tb (0, 0))) := by
        have := HO.out
        rw [List.take_length] at this
        exact ⟨this⟩
      have hll := le_len l
      have hwl := wrt_len xs L (le l) (by omega) hL
      clear HO
      go_wp2_with (fail)
      go_loop [4] (fun v4 => ∃ k : Nat, k ≤ (le l).length ∧ v4 = .int .i64 ((L - k : Nat) : Int) ∧ Aside0 (strip ((le l).take k) = strip (le l))) (fun i => L - (intOf i).toNat)
      case atStart => exact ⟨(le l).length, by omega, by congr 2; omega, ⟨by rw [List.take_length]⟩⟩
      case round =>
        obtain ⟨k, k0, rfl, HS⟩ := hrel
        by_cases hk : k = 0
        · subst hk
          have HS2 := Aside0.mk (show (strip (le l)).length = 0 by rw [← HS.out]; rfl)
          go_wp2_with (fail)
          go_ret
          exact ⟨by rw [HS2.out]; rfl, HO2.out, HB.out⟩
        · obtain ⟨k', rfl⟩ : ∃ k', k = k' + 1 := ⟨k - 1, by omega⟩
          obtain ⟨i, hi⟩ : ∃ i, L - (k' + 1) = i := ⟨_, rfl⟩
          have hc := (blk_cell HO2.out i).trans (u8s_get _ i (by omega))
          have e1 := wrt_get xs L (le l) k' (by omega) hL (by omega)
          rw [show L - 1 - k' = i by omega] at e1
          rw [e1] at hc
          obtain ⟨x, hx⟩ : ∃ x, x = (le l).getD k' 0 := ⟨_, rfl⟩
          rw [← hx] at hc
          rw [hi]
          by_cases hx0 : x = 0
          · have HS2 := Aside0.mk (show strip ((le l).take k') = strip (le l) by rw [← HS.out]; exact (strip_take _ _ (by omega) (by rw [← hx]; exact hx0)).symm)
            have hb : (x == 0) = true := by rw [beq_iff_eq]; exact hx0
            clear hx e1 hx0 HS
            go_wp2_with (fail)
            go_round
            case rel => first | exact ⟨k', by omega, by congr 1; omega, HS2⟩ | fail
            case measure => simp [intOf]; omega
          · have HS2 := Aside0.mk (show (strip (le l)).length = k' + 1 by rw [← HS.out, strip_stop _ _ (by omega) (by rw [← hx]; exact hx0), List.length_take]; omega)
            have hb : (x == 0) = false := by rw [beq_eq_false_iff_ne]; exact hx0
            clear hx e1 hx0 HS
            go_wp2_with (fail)
            go_ret
            exact ⟨by rw [HS2.out, hi]; rfl, HO2.out, HB.out⟩
end Go.Proofs.Ytapofoipfdjfhaa.Sp
end

/-! ## SetBytes -/
section
namespace Go.Proofs.Ytapofoipfdjfhaa.Sp
open Go.RowKit Go.Proofs.YtapofoipfdjfhaaW.PrintWords Go.Proofs.YtapofoipfdjfhaaW.PrintLast Go.Proofs.YtapofoipfdjfhaaW.PrintMore Go.Proofs.Ytapofoipfdjfhaa.Dig
set_option linter.unusedVariables false
set_option linter.unusedSimpArgs false
def b32 (l : List Int) : Int := l.getD 3 0 + (l.getD 2 0 * 256 + (l.getD 1 0 * 65536 + l.getD 0 0 * 16777216))
theorem b32_lt {l : List Int} (h : okd 256 l) : 0 ≤ b32 l ∧ b32 l < 4294967296 := by
  have h0 := okd_get h (by omega) 0
  have h1 := okd_get h (by omega) 1
  have h2 := okd_get h (by omega) 2
  have h3 := okd_get h (by omega) 3
  unfold b32
  omega
theorem be32_c (A : Option Addr) (c : Nat) (l : List Int) (w : World) (hC : Kd.C (Kd.int .u8) w A l.length l) (hlc : l.length ≤ c) (h4 : 4 ≤ l.length) (hok : okd 256 l) :
    Calls Try.prog 52 #[.slice A l.length c] w fun e w' => e = .returned (.int .u32 (b32 l)) ∧ Below w.heap.size w w' := by
  refine (bigall_beUint32.calls A c l (b32 l) w hC hlc ?_).mono ?_
  · have h0 := okd_get hok (by omega) 0
    have h1 := okd_get hok (by omega) 1
    have h2 := okd_get hok (by omega) 2
    have h3 := okd_get hok (by omega) 3
    unfold bigall_beUint32.f
    rw [if_pos (by omega), if_pos (by omega), if_pos (by omega), if_pos (by omega)]
    simp only [rd]
    unfold b32
    simp only [show (3 : Int).toNat = 3 from rfl, show (2 : Int).toNat = 2 from rfl, show (1 : Int).toNat = 1 from rfl, show (0 : Int).toNat = 0 from rfl]
    generalize l.getD 0 0 = a at *
    generalize l.getD 1 0 = b at *
    generalize l.getD 2 0 = e at *
    generalize l.getD 3 0 = f at *
    rw [show f % 4294967296 = f by omega, show e % 4294967296 * 256 % 4294967296 = e * 256 by omega, show b % 4294967296 * 65536 % 4294967296 = b * 65536 by omega, show a % 4294967296 * 16777216 % 4294967296 = a * 16777216 by omega,
      u32_or8 f (e * 256) h3.1 h3.2 (by omega) (by omega) (by omega), u32_or16 (f + e * 256) (b * 65536) (by omega) (by omega) (by omega) (by omega) (by omega), u32_or24 (f + e * 256 + b * 65536) (a * 16777216) (by omega) (by omega) (by omega) (by omega) (by omega)]
    congr 1
    omega
  · rintro e w' ⟨rfl, h⟩
    exact ⟨rfl, h.below⟩
theorem addr_add (a : Addr) (i m : Nat) : (a.add i).add m = a.add (i + m) := by
  unfold Addr.add
  by_cases h : i = 0
  · subst h
    simp
  · by_cases h2 : m = 0
    · subst h2
      simp [h]
    · simp [h, h2, Nat.add_assoc]
theorem C_sub {w : World} {k : IntKind} {ad : Addr} {l : List Int} (h : Kd.C (Kd.int k) w (some ad) l.length l) (i n : Nat) (hn : i + n ≤ l.length) : Kd.C (Kd.int k) w (some (ad.add i)) ((l.drop i).take n).length ((l.drop i).take n) := by
  obtain ⟨h1, h2, h3⟩ := h
  refine ⟨rfl, by simp; omega, fun h0 => ?_⟩
  have hl : ((l.drop i).take n).length = n := by simp; omega
  obtain ⟨ad', e, hc⟩ := h3 (by omega)
  cases e
  refine ⟨_, rfl, fun j p hj => ?_⟩
  have hj' : l[i + j]? = some p := by
    rw [List.getElem?_take] at hj
    split at hj
    · rw [List.getElem?_drop] at hj
      exact hj
    · cases hj
  obtain ⟨cs, g1, g2, g3⟩ := hc (i + j) p hj'
  refine ⟨cs, g1, g2, fun t u ht => ?_⟩
  have := g3 t u ht
  have e1 : (Kd.int k).sz = 1 := rfl
  rw [e1] at this ⊢
  rw [← this]
  congr 1
  rw [addr_add]
  congr 1
  omega
/-! ### beUint64 -/
def b64 (l : List Int) : Int := b32 (l.drop 4) + b32 l * 4294967296
theorem be32_8 (ad : Addr) (c : Nat) (l : List Int) (w : World) (hC : Kd.C (Kd.int .u8) w (some ad) l.length l) (hlc : l.length ≤ c) (h8 : l.length = 8) (hok : okd 256 l) :
    Calls Try.prog 52 #[.slice (some ad) 8 c] w fun e w' => e = .returned (.int .u32 (b32 l)) ∧ Below w.heap.size w w' := by
  have := be32_c (some ad) c l w hC hlc (by omega) hok
  rw [h8] at this
  exact this
theorem be32_4 (ad : Addr) (c : Nat) (l : List Int) (w : World) (hC : Kd.C (Kd.int .u8) w (some ad) l.length l) (hlc : l.length ≤ c) (h8 : l.length = 8) (hok : okd 256 l) :
    Calls Try.prog 52 #[.slice (some ⟨ad.block, ad.off + 4, none⟩) 4 (c - 4)] w fun e w' => e = .returned (.int .u32 (b32 (l.drop 4))) ∧ Below w.heap.size w w' := by
  have h1 := C_sub hC 4 4 (by omega)
  have e1 : (l.drop 4).take 4 = l.drop 4 := List.take_of_length_le (by simp; omega)
  have e2 : (l.drop 4).length = 4 := by simp; omega
  rw [e1] at h1
  have := be32_c (some (ad.add 4)) (c - 4) (l.drop 4) w h1 (by omega) (by omega) (okd_drop hok 4)
  rw [e2] at this
  exact this
set_option maxHeartbeats 1600000 in
set_option maxRecDepth 100000 in
theorem be64_c (ad : Addr) (c : Nat) (l : List Int) (w : World) (hC : Kd.C (Kd.int .u8) w (some ad) l.length l) (hlc : l.length ≤ c) (h8 : l.length = 8) (hok : okd 256 l) :
    Calls Try.prog 65 #[.slice (some ad) l.length c] w fun e w' => e = .returned (.int .u64 (b64 l)) ∧ Below w.heap.size w w' := by
  have HC := Aside0.mk hC
  have hx := Kd.at_int hC 7 (by omega) (by omega)
  have h1 := b32_lt hok
  have h2 := b32_lt (okd_drop hok 4)
  have HOK := Aside0.mk hok
  have hl4 : (l.drop 4).length = l.length - 4 := by simp
  obtain ⟨x, hxx⟩ : ∃ x, x = b32 l := ⟨_, rfl⟩
  obtain ⟨y, hyy⟩ : ∃ y, y = b32 (l.drop 4) := ⟨_, rfl⟩
  rw [show b64 l = y + x * 4294967296 by rw [hxx, hyy]; rfl]
  rw [← hxx] at h1
  rw [← hyy] at h2
  have HXX := Aside0.mk hxx
  have HYY := Aside0.mk hyy
  have HLC := Aside0.mk hlc
  have hc4 : ¬ c = 4 := by omega
  obtain ⟨ad', e, hx⟩ := hx
  cases e
  have hx7 : w.cell? ⟨ad.block, ad.off + 7, none⟩ = some (.int .u8 (rd l 7)) := hx
  clear hC hok hx hxx hyy hl4
  go_enter Try.func65, Try.ntmps65
  go_wp2_with ((fail_if_success go_at_call 52); go_in)
  have HC0 := Aside0.mk (Kd.C_below HC.out (below_drew (Below.refl w.heap.size w)))
  refine start_ (n := 10) (S := fun w' => True) (ds := []) #[false, false, false, false, false, false, false, false, false, false] (by kernel_rfl) rfl rfl trivial (fun hHeld => ?_)
  refine pure_ (i := 0) (N := some 6) (v := ?_) (a' := ?_) #[true, false, false, false, false, false, false, false, false, false] rfl rfl (by kernel_rfl) (fun _ _ _ h => h) (Or.inl ⟨by rfl, ?_⟩) ?_ ?_
  rotate_left
  · intro w'
    go_simp
    with_reducible rfl
  rotate_left
  · simp only [Act.put, List.setIfInBounds_toArray, List.set_cons_zero, List.set_cons_succ, i64_w, i32_w]
    rfl
  refine pure_ (i := 4) (N := some 10) (v := ?_) (a' := ?_) #[true, false, false, false, true, false, false, false, false, false] rfl rfl (by kernel_rfl) (fun _ _ _ h => h) (Or.inl ⟨by rfl, ?_⟩) ?_ ?_
  rotate_left
  · intro w'
    go_simp
    with_reducible rfl
  rotate_left
  · simp only [Act.put, List.setIfInBounds_toArray, List.set_cons_zero, List.set_cons_succ, i64_w, i32_w]
    rfl
  refine pure_ (i := 5) (N := some 11) (v := ?_) (a' := ?_) #[true, false, false, false, true, true, false, false, false, false] rfl rfl (by kernel_rfl) (fun _ _ _ h => h) (Or.inl ⟨by rfl, ?_⟩) ?_ ?_
  rotate_left
  · intro w'
    go_simp
    with_reducible rfl
  rotate_left
  · simp only [Act.put, List.setIfInBounds_toArray, List.set_cons_zero, List.set_cons_succ, i64_w, i32_w]
    rfl
  refine one_ (i := 1) (N := some 7) #[true, true, false, false, true, true, false, false, false, false] rfl rfl (by kernel_rfl) (by decide) (fun K hK => ?_)
  refine goes_ Try.func52 (by kernel_rfl) rfl #[.slice (some ad) 8 c] (by rfl) rfl rfl (by simp only [List.map_toArray, List.map_cons, List.map_nil]; rfl) ?_
  with_reducible refine (be32_8 ad c l _ HC0.out HLC.out h8 HOK.out).mono ?_
  rintro e w1 ⟨rfl, hb1⟩
  refine ⟨_, rfl, ?_⟩
  rw [← HXX.out]
  have HC1 := Aside0.mk (Kd.C_below HC0.out hb1)
  have HB := Aside0.mk (below_step (below_drew (Below.refl w.heap.size w)) hb1)
  refine hK.out _ _ trivial (fun hHeld => ?_)
  clear hK K
  refine norm_ (a' := ?_) ?_ ?_
  rotate_left
  · show Act.put _ (some 7) _ = _
    simp only [Act.put, List.setIfInBounds_toArray, List.set_cons_zero, List.set_cons_succ, i64_w, i32_w]
    rfl
  refine pure_ (i := 2) (N := some 8) (v := ?_) (a' := ?_) #[true, true, true, false, true, true, false, false, false, false] rfl rfl (by kernel_rfl) (fun _ _ _ h => h) (Or.inl ⟨by rfl, ?_⟩) ?_ ?_
  rotate_left
  · intro w'
    go_simp
    with_reducible rfl
  rotate_left
  · simp only [Act.put, List.setIfInBounds_toArray, List.set_cons_zero, List.set_cons_succ, i64_w, i32_w]
    rfl
  refine pure_ (i := 3) (N := some 9) (v := ?_) (a' := ?_) #[true, true, true, true, true, true, false, false, false, false] rfl rfl (by kernel_rfl) (fun _ _ _ h => h) (Or.inl ⟨by rfl, ?_⟩) ?_ ?_
  rotate_left
  · intro w'
    go_simp
    with_reducible rfl
  rotate_left
  · simp only [Act.put, List.setIfInBounds_toArray, List.set_cons_zero, List.set_cons_succ, i64_w, i32_w]
    rfl
  refine one_ (i := 6) (N := some 12) #[true, true, true, true, true, true, true, false, false, false] rfl rfl (by kernel_rfl) (by decide) (fun K hK => ?_)
  refine goes_ Try.func52 (by kernel_rfl) rfl #[.slice (some ⟨ad.block, ad.off + 4, none⟩) 4 (c - 4)] (by rfl) rfl rfl (by simp only [List.map_toArray, List.map_cons, List.map_nil]; rfl) ?_
  with_reducible refine (be32_4 ad c l _ HC1.out HLC.out h8 HOK.out).mono ?_
  rintro e w2 ⟨rfl, hb2⟩
  refine ⟨_, rfl, ?_⟩
  rw [← HYY.out]
  have HB2 := Aside0.mk (below_step HB.out hb2)
  refine hK.out _ _ trivial (fun hHeld => ?_)
  clear hK K
  refine norm_ (a' := ?_) ?_ ?_
  rotate_left
  · show Act.put _ (some 12) _ = _
    simp only [Act.put, List.setIfInBounds_toArray, List.set_cons_zero, List.set_cons_succ, i64_w, i32_w]
    rfl
  refine pure_ (i := 7) (N := some 13) (v := ?_) (a' := ?_) #[true, true, true, true, true, true, true, true, false, false] rfl rfl (by kernel_rfl) (fun _ _ _ h => h) (Or.inl ⟨by rfl, ?_⟩) ?_ ?_
  rotate_left
  · intro w'
    go_simp
    with_reducible rfl
  rotate_left
  · simp only [Act.put, List.setIfInBounds_toArray, List.set_cons_zero, List.set_cons_succ, i64_w, i32_w]
    rfl
  refine pure_ (i := 8) (N := some 14) (v := ?_) (a' := ?_) #[true, true, true, true, true, true, true, true, true, false] rfl rfl (by kernel_rfl) (fun _ _ _ h => h) (Or.inl ⟨by rfl, ?_⟩) ?_ ?_
  rotate_left
  · intro w'
    go_simp
    with_reducible rfl
  rotate_left
  · simp only [Act.put, List.setIfInBounds_toArray, List.set_cons_zero, List.set_cons_succ, i64_w, i32_w]
    rfl
  refine pure_ (i := 9) (N := some 2) (v := ?_) (a' := ?_) #[true, true, true, true, true, true, true, true, true, true] rfl rfl (by kernel_rfl) (fun _ _ _ h => h) (Or.inl ⟨by rfl, ?_⟩) ?_ ?_
  rotate_left
  · intro w'
    go_simp
    with_reducible rfl
  rotate_left
  · simp only [Act.put, List.setIfInBounds_toArray, List.set_cons_zero, List.set_cons_succ, i64_w, i32_w]
    rfl
  refine done_ (by kernel_rfl) ?_
  go_wp2_with (fail)
  go_ret
  have e0 : bits .or .u64 (IntKind.u64.wrap (IntKind.u64.wrap x * 4294967296)) (IntKind.u64.wrap y) = y + x * 4294967296 := by
    rw [wrap_u64 h1.1 (by omega), wrap_u64 h2.1 (by omega), wrap_u64 (by omega) (by omega), bits_join .u64 64 (by decide) (fun n h0 h1 => wrap_u64 h0 (by simpa using h1)) 32 (x * 4294967296) y (by omega) (by simp) (by simp; omega) h2.1 (by simp; omega) (by simp; omega)]
    omega
  exact ⟨by rw [← e0]; rfl, HB2.out⟩
/-- Eight bytes, the highest first, as a number. -/
theorem b64_ev (l : List Int) (h8 : l.length = 8) : b64 l = ev 256 l.reverse := by
  match l, h8 with
  | [a, b, c, d, e, f, g, h], _ =>
    simp only [b64, b32, List.drop_succ_cons, List.drop_zero, List.reverse_cons, List.reverse_nil, List.nil_append, List.cons_append, ev_cons, ev_nil, List.getD_cons_zero, List.getD_cons_succ]
    omega
/-- The words of little-endian bytes. -/
def wd (rb : List Int) (k : Nat) : Int := ev 256 ((rb.drop (8 * k)).take 8)
def wds (rb : List Int) (k : Nat) : List Int := (List.range k).map (wd rb)
theorem wds_len (rb : List Int) (k : Nat) : (wds rb k).length = k := by simp [wds]
theorem wds_succ (rb : List Int) (k : Nat) : wds rb (k + 1) = wds rb k ++ [wd rb k] := by simp [wds, List.range_succ]
theorem wd_ok {rb : List Int} (h : okd 256 rb) (k : Nat) : 0 ≤ wd rb k ∧ wd rb k < BW := by
  have h1 := okd_take (okd_drop h (8 * k)) 8
  refine ⟨ev_nonneg h1 (by omega), ?_⟩
  have h2 := ev_lt h1 (by omega)
  have h3 : (256 : Int) ^ ((rb.drop (8 * k)).take 8).length ≤ 256 ^ 8 := pow_mono (by omega) (by simp; omega)
  have h4 : (256 : Int) ^ 8 = BW := by rw [BW_def]; rfl
  unfold wd
  omega
theorem wds_ok {rb : List Int} (h : okd 256 rb) (k : Nat) : okd BW (wds rb k) := by
  intro d hd
  simp [wds] at hd
  obtain ⟨i, _, rfl⟩ := hd
  exact wd_ok h i
theorem wds_ev (rb : List Int) (k : Nat) (hk : 8 * k ≤ rb.length + 7) : ev BW (wds rb k) = ev 256 (rb.take (8 * k)) := by
  induction k with
  | zero => simp [wds, ev_nil]
  | succ k ih =>
    have e : rb.take (8 * (k + 1)) = rb.take (8 * k) ++ (rb.drop (8 * k)).take 8 := by
      rw [show 8 * (k + 1) = 8 * k + 8 by omega, List.take_add]
    rw [wds_succ, ev_snoc, wds_len, ih (by omega), e, ev_append, List.length_take, Nat.min_eq_left (by omega), Int.pow_mul, show (256 : Int) ^ 8 = BW from by rw [BW_def]; rfl]
    rfl
theorem rev_sub (l : List Int) (i n : Nat) (h : i + n ≤ l.length) : ((l.drop i).take n).reverse = (l.reverse.drop (l.length - i - n)).take n := by
  apply List.ext_getElem
  · simp; omega
  · intro j h1 h2
    simp [List.getElem_reverse, List.getElem_take, List.getElem_drop]
    congr 1
    simp at h1 h2
    omega
theorem be64_w (ad : Addr) (c : Nat) (bs rb : List Int) (i k : Nat) (w : World) (hC : Kd.C (Kd.int .u8) w (some ad) bs.length bs) (hlc : bs.length ≤ c) (hik : i + 8 + 8 * k = bs.length) (hok : okd 256 bs) (hrb : rb = bs.reverse) :
    Calls Try.prog 65 #[.slice (some (ad.add i)) 8 (c - i)] w fun e w' => e = .returned (.int .u64 (wd rb k)) ∧ Below w.heap.size w w' := by
  have h1 := C_sub hC i 8 (by omega)
  have h2 : ((bs.drop i).take 8).length = 8 := by simp; omega
  have h3 := be64_c (ad.add i) (c - i) ((bs.drop i).take 8) w h1 (by omega) h2 (okd_take (okd_drop hok i) 8)
  rw [b64_ev _ h2, rev_sub bs i 8 (by omega), h2, ← hrb, show bs.length - i - 8 = 8 * k by omega] at h3
  exact h3
theorem wds_set (rb : List Int) (k m : Nat) (h : 0 < m) : (wds rb k ++ List.replicate m 0).set k (wd rb k) = wds rb (k + 1) ++ List.replicate (m - 1) 0 := by
  obtain ⟨m', rfl⟩ : ∃ m', m = m' + 1 := ⟨m - 1, by omega⟩
  rw [List.set_append_right _ _ (by rw [wds_len]; omega), wds_len, Nat.sub_self, List.replicate_succ, List.set_cons_zero, wds_succ]
  simp
theorem put8 (d b : Int) (t : Nat) (ht : t < 8) (h0 : 0 ≤ d) (h1 : d < 256 ^ t) (hb0 : 0 ≤ b) (hb1 : b < 256) :
    Go.bits .or .u64 d (IntKind.u64.wrap (b * 2 ^ (8 * t))) = d + 256 ^ t * b := by
  have e : (256 : Int) ^ t = 2 ^ (8 * t) := by rw [Int.pow_mul]; rfl
  rw [e] at h1 ⊢
  have hb : (2 : Int) ^ (8 * t) ≤ 2 ^ 56 := pow_mono (by omega) (by omega)
  have hp : (0 : Int) < 2 ^ (8 * t) := Int.pow_pos (by omega)
  have hm : b * 2 ^ (8 * t) ≤ 255 * 2 ^ (8 * t) := Int.mul_le_mul_of_nonneg_right (by omega) (Int.le_of_lt hp)
  have hm0 : 0 ≤ b * 2 ^ (8 * t) := Int.mul_nonneg hb0 (Int.le_of_lt hp)
  have c56 : (2 : Int) ^ 56 = 72057594037927936 := rfl
  rw [wrap_u64 hm0 (by omega), or64_join (8 * t) _ _ hm0 (Int.mul_emod_left _ _) (by omega) h0 h1 (by omega)]
  rw [Int.mul_comm b]
theorem fin_wds (rb : List Int) (n cc g : Nat) (w : World) (h : hp w g = some (.cells (u64s (wds rb n ++ List.replicate (cc - n) 0)) 85 (0, 0))) (hn : n ≤ cc) (hcc : cc ≤ 1000000000) (hok : okd 256 rb) (hr : rb.length ≤ 8 * n) (hr2 : 8 * n ≤ rb.length + 7) :
    Kd.C (Kd.int .u64) w (some ⟨g, 0, none⟩) (wds rb n).length (wds rb n) ∧ Wd w (.slice (some ⟨g, 0, none⟩) (strip (wds rb n)).length cc) (ev 256 rb) := by
  have hC : Kd.C (Kd.int .u64) w (some ⟨g, 0, none⟩) (wds rb n).length (wds rb n) := by
    refine blk_C _ h 0 (by rw [wds_len]; omega) (fun i hi => ?_)
    rw [Nat.zero_add, u64s_get _ i (by rw [List.length_append]; omega)]
    congr 2
    simp only [List.getD_eq_getElem?_getD]
    rw [List.getElem?_append_left hi]
  refine ⟨hC, ?_⟩
  have h1 := strip_wd hC (c := cc) (by rw [wds_len]; exact hn) (wds_ok hok n)
  rw [wds_ev _ _ hr2, List.take_of_length_le hr] at h1
  exact h1
theorem norm_w (A : Option Addr) (c : Nat) (l : List Int) (n : Nat) (w : World) (h : Kd.C (Kd.int .u64) w A l.length l) (hn : l.length = n) (hlc : n ≤ c) (hl : n ≤ 1000000000000) :
    Calls Try.prog 64 #[.slice A n c] w fun e w' => e = .returned (.slice A (strip l).length c) ∧ w = w' := by
  subst hn
  exact norm_c A c l w h hlc hl
/-! ### setBytes -/
set_option maxHeartbeats 1600000 in
set_option maxRecDepth 100000 in
theorem setBytes_c (ad : Addr) (c : Nat) (bs : List Int) (w : World) (hC : Kd.C (Kd.int .u8) w (some ad) bs.length bs) (hlc : bs.length ≤ c) (h0 : 0 < bs.length) (hbig : bs.length ≤ 1000000) (hok : okd 256 bs) :
    Calls Try.prog 53 #[.slice none 0 0, .slice (some ad) bs.length c] w fun e w' => ∃ A m c, e = .returned (.slice A m c) ∧ Wd w' (.slice A m c) (ev 256 bs.reverse) ∧ Below w.heap.size w w' := by
  have HC := Aside0.mk hC
  have HOK := Aside0.mk hok
  clear hC hok
  obtain ⟨rb, hrb⟩ : ∃ rb, rb = bs.reverse := ⟨_, rfl⟩
  have HRB := Aside0.mk hrb
  have hrl : rb.length = bs.length := by rw [hrb]; simp
  have HOK2 : Aside0 (okd 256 rb) := ⟨by rw [hrb]; exact fun d hd => HOK.out d (List.mem_reverse.1 hd)⟩
  rw [← hrb]
  clear hrb
  go_enter Try.func53, Try.ntmps53
  go_wp2_with ((fail_if_success go_at_call 62); (fail_if_success go_at_call 65); go_in)
  refine (make_nil _ (by omega) (by omega) _).mono ?_
  rintro e w1 ⟨cc, hc1, hc2, rfl, rfl⟩
  obtain ⟨n, hn⟩ : ∃ n, n = (((bs.length : Int) + 8 - 1) / 8).toNat := ⟨_, rfl⟩
  rw [← hn] at hc1 hc2 ⊢
  have hn1 : bs.length ≤ 8 * n := by omega
  have hn2 : 8 * n ≤ bs.length + 7 := by omega
  clear hn
  go_wp2_with ((fail_if_success go_at_call 62); (fail_if_success go_at_call 65); (fail_if_success go_at_call 64); go_in)
  go_loopw [5, 6] (fun v5 v6 wr => ∃ (i k : Nat), i + 8 * k = bs.length ∧ v5 = .int .i64 (i : Int) ∧ v6 = .int .i64 (k : Int) ∧ Aside0 (hp wr w.heap.size = some (.cells (u64s (wds rb k ++ List.replicate (cc - k) 0)) 85 (0, 0))) ∧ Aside0 (Below w.heap.size w wr)) (fun v _ _ => (intOf v).toNat)
  case atStart => exact ⟨bs.length, 0, by omega, rfl, rfl, ⟨by simp [wds, hp_new]⟩, ⟨below_alloc (Below.refl _ _) _⟩⟩
  case round =>
    obtain ⟨i, k, hik, rfl, rfl, HO, HB⟩ := hrel
    by_cases hi : 8 ≤ i
    · obtain ⟨i2, rfl⟩ : ∃ i2, i = i2 + 8 := ⟨i - 8, by omega⟩
      go_wp2_with ((fail_if_success go_at_call 62); (fail_if_success go_at_call 65); (fail_if_success go_at_call 64); go_in)
      refine (be64_w ad c bs rb i2 k _ (Kd.C_below HC.out HB.out) hlc hik HOK.out HRB.out).mono ?_
      rintro e w2 ⟨rfl, hb⟩
      have ho := hp_below HO.out hb
      have hlen : (wds rb k ++ List.replicate (cc - k) 0).length = cc := by simp [wds_len]; omega
      have hc := (blk_cell ho k).trans (u64s_get _ k (by omega))
      have hf := blk_frozen ho k
      have HO2 : Aside0 (hp (w2.setCell ⟨w.heap.size, k, none⟩ (.int .u64 (wd rb k))) w.heap.size = some (.cells (u64s (wds rb (k + 1) ++ List.replicate (cc - (k + 1)) 0)) 85 (0, 0))) := by
        constructor
        rw [hp_here _ _ _ _ _ rfl, ho]
        simp only [Option.map_some, setObj_cells, u64s_set]
        rw [wds_set _ _ _ (by omega)]
        rfl
      have HB2 := Aside0.mk ((below_step HB.out hb).setCell (p := ⟨w.heap.size, k, none⟩) (Nat.le_refl _) (.int .u64 (wd rb k)))
      have hkn : k < n := by omega
      clear HO HB hb ho hlen
      go_wp2_with ((fail_if_success go_at_call 62); (fail_if_success go_at_call 65); (fail_if_success go_at_call 64); go_in)
      go_roundw
      case rel => first | exact ⟨i2, k + 1, by omega, rfl, by simp, HO2, HB2⟩ | fail
      case measure => simp [intOf]; omega
    · by_cases hi0 : i = 0
      · subst hi0
        obtain rfl : k = n := by omega
        have hH := fin_wds rb k cc w.heap.size wr HO.out hc1 (by omega) HOK2.out (by omega) (by omega)
        have HH := Aside0.mk hH
        clear HO hH
        go_wp2_with ((fail_if_success go_at_call 62); (fail_if_success go_at_call 65); (fail_if_success go_at_call 64); go_in)
        refine (norm_w _ cc (wds rb k) k _ HH.out.1 (wds_len _ _) hc1 (by omega)).mono ?_
        rintro e w2 ⟨rfl, rfl⟩
        go_wp2_with ((fail_if_success go_at_call 62); (fail_if_success go_at_call 65); (fail_if_success go_at_call 64); go_in)
        go_ret
        exact ⟨_, _, _, rfl, HH.out.2, HB.out⟩
      · have hn : n = k + 1 := by omega
        subst hn
        go_wp2_with ((fail_if_success go_at_call 62); (fail_if_success go_at_call 65); (fail_if_success go_at_call 64); go_in)
        go_loop [5, 7, 8] (fun v5 v7 v8 => ∃ (i' t : Nat) (d : Int), i' + t = i ∧ v5 = .int .i64 (i' : Int) ∧ v7 = .int .u64 d ∧ v8 = .int .u64 ((8 * t : Nat) : Int) ∧ Aside0 (d = ev 256 ((rb.drop (8 * k)).take t))) (fun v _ _ => (intOf v).toNat)
        case atStart => exact ⟨i, 0, 0, by omega, rfl, rfl, rfl, ⟨by simp [ev_nil]⟩⟩
        case round =>
          obtain ⟨i', t, d, hit, rfl, rfl, rfl, HD⟩ := hrel
          by_cases hi' : i' = 0
          · subst hi'
            have HD2 : Aside0 (d = wd rb k) := ⟨by rw [HD.out]; unfold wd; rw [List.take_of_length_le (by simp; omega), List.take_of_length_le (by simp; omega)]⟩
            have hlen : (wds rb k ++ List.replicate (cc - k) 0).length = cc := by simp [wds_len]; omega
            have hc := (blk_cell HO.out k).trans (u64s_get _ k (by omega))
            have hf := blk_frozen HO.out k
            have HO2 : hp (wr.setCell ⟨w.heap.size, k, none⟩ (.int .u64 d)) w.heap.size = some (.cells (u64s (wds rb (k + 1) ++ List.replicate (cc - (k + 1)) 0)) 85 (0, 0)) := by
              rw [hp_here _ _ _ _ _ rfl, HO.out]
              simp only [Option.map_some, setObj_cells, u64s_set]
              rw [HD2.out, wds_set _ _ _ (by omega)]
              rfl
            have HB2 := Aside0.mk (HB.out.setCell (p := ⟨w.heap.size, k, none⟩) (Nat.le_refl _) (.int .u64 d))
            have HH := Aside0.mk (fin_wds rb (k + 1) cc w.heap.size _ HO2 hc1 (by omega) HOK2.out (by omega) (by omega))
            clear HO HB HO2 HD HD2 hlen
            go_wp2_with ((fail_if_success go_at_call 62); (fail_if_success go_at_call 65); (fail_if_success go_at_call 64); go_in)
            refine (norm_w _ cc (wds rb (k + 1)) (k + 1) _ HH.out.1 (wds_len _ _) hc1 (by omega)).mono ?_
            rintro e w2 ⟨rfl, rfl⟩
            go_wp2_with ((fail_if_success go_at_call 62); (fail_if_success go_at_call 65); (fail_if_success go_at_call 64); go_in)
            go_ret
            exact ⟨_, _, _, rfl, HH.out.2, HB2.out⟩
          · obtain ⟨i2, rfl⟩ : ∃ i2, i' = i2 + 1 := ⟨i' - 1, by omega⟩
            obtain ⟨_, e, hx⟩ := Kd.at_int HC.out (i2 : Int) (by omega) (by omega)
            cases e
            replace hx := (HB.out.cell (World.block_lt_of_cell? _ _ hx)).trans hx
            have hbt : rd bs (i2 : Int) = (rb.drop (8 * k)).getD t 0 := by
              rw [HRB.out]
              simp only [rd, Int.toNat_natCast, List.getD_eq_getElem?_getD, List.getElem?_drop]
              rw [List.getElem?_reverse (by omega)]
              congr 2
              omega
            obtain ⟨b, hb⟩ : ∃ b, b = (rb.drop (8 * k)).getD t 0 := ⟨_, rfl⟩
            rw [hbt, ← hb, Int.toNat_natCast] at hx
            have hokd := okd_drop HOK2.out (8 * k)
            have hb0 := okd_get hokd (by omega) t
            rw [← hb] at hb0
            have htl : ((rb.drop (8 * k)).take t).length = t := by simp; omega
            have hd0 := ev_nonneg (okd_take hokd t) (by omega)
            have hd1 := ev_lt (okd_take hokd t) (by omega)
            rw [htl, ← HD.out] at hd1
            rw [← HD.out] at hd0
            have hput := put8 d b t (by omega) hd0 hd1 hb0.1 hb0.2
            have HD2 : Aside0 (d + 256 ^ t * b = ev 256 ((rb.drop (8 * k)).take (t + 1))) := ⟨by rw [ev_take_succ _ _ _ (by simp; omega), ← hb, ← HD.out]⟩
            clear HD hbt hb hokd htl hd0 hd1
            have HP := Aside0.mk hput
            clear hput
            go_wp2_with ((fail_if_success go_at_call 62); (fail_if_success go_at_call 65); (fail_if_success go_at_call 64); go_in)
            go_round
            case rel => first | exact ⟨i2, t + 1, _, by omega, rfl, rfl, by congr 1, ⟨by rw [HP.out]; exact HD2.out⟩⟩ | fail
            case measure => simp [intOf]
end Go.Proofs.Ytapofoipfdjfhaa.Sp
end

/-! ## Rat -/
section
namespace Go.Proofs.Ytapofoipfdjfhaa.Sp
open Go.RowKit Go.Proofs.YtapofoipfdjfhaaW.PrintWords Go.Proofs.YtapofoipfdjfhaaW.PrintLast Go.Proofs.YtapofoipfdjfhaaW.PrintMore Go.Proofs.Ytapofoipfdjfhaa.Dig
set_option linter.unusedVariables false
set_option linter.unusedSimpArgs false
set_option maxHeartbeats 3200000 in
set_option maxRecDepth 100000 in
theorem rat_c (neg : Bool) (A A2 : Option Addr) (m c m2 c2 : Nat) (l l2 : List Int) (w : World) (h : Ws w (.slice A m c) l) (h2 : Ws w (.slice A2 m2 c2) l2) (hl : l.length ≤ 20000) (hl2 : l2.length ≤ 20000) :
    Calls Try.prog 33 #[.agg #[.bool neg, .slice A m c, .slice A2 m2 c2]] w fun e w' => ∃ g, e = .returned (.pointer (some ⟨g, 0, none⟩)) ∧ w.heap.size ≤ g ∧ RatB w' g (neg && decide (0 < ev BW l)) (ev BW l) (ev BW l2) ∧ Below w.heap.size w w' := by
  obtain ⟨A2', c2', e, k2, k3, k4⟩ := h2
  injection e with e1 e2 e3
  subst e1 e2 e3
  have hlim : ev BW l < Lim := by
    obtain ⟨A', c', e, h2, h3, h4⟩ := h
    exact words_Lim h4 (by omega)
  have hmk := make_ints 57 85 .u64 8 Try.underlying57 infoWord (by omega) 1 1 (by omega) (by omega) (by omega)
  have hu := Try.underlying37
  have hu2 := Try.underlying24
  have hb : Below w.heap.size w ((w.alloc (.cells #[.bool neg, .slice A m c, .slice A2 l2.length c2] 37)).alloc (.cells #[.bool false, .slice none 0 0, .bool false, .slice none 0 0] 61)) := below_alloc (below_alloc (Below.refl _ _) _) _
  have HX := Aside0.mk (h.below hb)
  have HY := Aside0.mk ((show Ws w (.slice A2 l2.length c2) l2 from ⟨A2, c2, rfl, k2, k3, k4⟩).below hb)
  have HB := Aside0.mk hb
  have HL := Aside0.mk hlim
  have HLL := Aside0.mk hl
  have HLL2 := Aside0.mk hl2
  clear h hb hlim hl k3 k4
  go_enter Try.func33, Try.ntmps33
  go_wp2_with ((fail_if_success go_at_call 30); go_in)
  refine (of_impl_c neg A m c l _ HX.out (by have := HLL.out; omega)).mono ?_
  rintro e w1 ⟨g, rfl, hg, hi, hb1⟩
  obtain ⟨vx, hgx, hv⟩ := hi
  have kf := hp_below (show hp _ w.heap.size = some (.cells #[.bool neg, .slice A m c, .slice A2 l2.length c2] 37 (0, 0)) from (by simp (disch := first | omega | (simp; omega) | (simp; done) | fail) [hp_new, hp_old, hp_here, hp_other, setObj_cells, hp_drew, hp_drewN])) hb1
  have kr := hp_below (show hp _ (w.heap.size + 1) = some (.cells #[.bool false, .slice none 0 0, .bool false, .slice none 0 0] 61 (0, 0)) from (by simp (disch := first | omega | (simp; omega) | (simp; done) | fail) [hp_new, hp_old, hp_here, hp_other, setObj_cells, hp_drew, hp_drewN])) hb1
  have HB1 := Aside0.mk (below_step HB.out hb1)
  have HY1 := Aside0.mk (HY.out.below hb1)
  have KF := Aside0.mk kf
  have KR := Aside0.mk kr
  have KG := Aside0.mk hgx
  have HV := Aside0.mk hv
  have hg2 : w.heap.size + 1 < g := by simp at hg; omega
  clear hb1 kf kr hgx hv HX HB hg HY
  go_wp2_with ((fail_if_success go_at_call 45); go_in)
  refine (int_set_c (w.heap.size + 1) 0 g _ _ false _ vx _ _ KR.out KG.out (by omega) rfl rfl HV.out HL.out).mono ?_
  rintro e w2 ⟨A1, m1, c1, w3, rfl, rfl, hv1, hb3⟩
  have kf := hp_below KF.out hb3
  have kr := hp_below KR.out hb3
  obtain ⟨r0, r1, r2, r3, g0, g1, g2, g3⟩ := blk4 kr
  obtain ⟨q0, q1, q2, _, _, _⟩ := blk3 kf
  have HB3 := Aside0.mk (below_step HB1.out hb3)
  have HY3 := Aside0.mk (HY1.out.below hb3)
  have KF3 := Aside0.mk kf
  have KR3 := Aside0.mk kr
  have HV3 := Aside0.mk hv1
  have hs3 := hp_lt kr
  clear hb3 kf kr hv1 KF KR KG HV HB1 HY1
  obtain ⟨sg, hsg⟩ : ∃ sg, sg = (neg && decide (0 < ev BW l)) := ⟨_, rfl⟩
  have HSG := Aside0.mk hsg
  rw [← hsg]
  clear hsg
  have hs4 : w.heap.size < w3.heap.size := by omega
  have hset : ∀ {u : Value} {z : Int}, Wd w3 u z → Wd ((((w3.setCell ⟨w.heap.size + 1, 1, none⟩ (.slice A1 m1 c1)).setCell ⟨w.heap.size + 1, 0, none⟩ (.bool sg)).setCell ⟨w.heap.size + 1, 3, none⟩ (.slice (some ⟨w3.heap.size, 0, none⟩) 1 1)).alloc (.cells #[.int .u64 1] 85)) u z := by
    intro u z hz
    refine Wd.below (Wd.set (Wd.set (Wd.set hz r1 (by simp) _) (u := .bool false) ?_ (by simp) _) (u := .slice none 0 0) ?_ (by simp) _) (below_alloc (Below.refl _ _) _)
    · rw [World.cell?_setCell_other _ _ _ _ (by simp)]; exact r0
    · rw [World.cell?_setCell_other _ _ _ _ (by simp), World.cell?_setCell_other _ _ _ _ (by simp)]; exact r3
  have hsetS : Ws ((((w3.setCell ⟨w.heap.size + 1, 1, none⟩ (.slice A1 m1 c1)).setCell ⟨w.heap.size + 1, 0, none⟩ (.bool sg)).setCell ⟨w.heap.size + 1, 3, none⟩ (.slice (some ⟨w3.heap.size, 0, none⟩) 1 1)).alloc (.cells #[.int .u64 1] 85)) (.slice A2 l2.length c2) l2 := by
    refine Ws.below (Ws.set (Ws.set (Ws.set HY3.out r1 (by simp) _) (u := .bool false) ?_ (by simp) _) (u := .slice none 0 0) ?_ (by simp) _) (below_alloc (Below.refl _ _) _)
    · rw [World.cell?_setCell_other _ _ _ _ (by simp)]; exact r0
    · rw [World.cell?_setCell_other _ _ _ _ (by simp), World.cell?_setCell_other _ _ _ _ (by simp)]; exact r3
  have HVB : Aside0 (Below w.heap.size w ((((w3.setCell ⟨w.heap.size + 1, 1, none⟩ (.slice A1 m1 c1)).setCell ⟨w.heap.size + 1, 0, none⟩ (.bool sg)).setCell ⟨w.heap.size + 1, 3, none⟩ (.slice (some ⟨w3.heap.size, 0, none⟩) 1 1)).alloc (.cells #[.int .u64 1] 85))) := ⟨below_alloc (((HB3.out.setCell (p := ⟨w.heap.size + 1, 1, none⟩) (by simp) _).setCell (p := ⟨w.heap.size + 1, 0, none⟩) (by simp) _).setCell (p := ⟨w.heap.size + 1, 3, none⟩) (by simp) _) _⟩
  have HVS := Aside0.mk (hset HV3.out)
  have HYS := Aside0.mk hsetS
  have HPA : Aside0 (hp ((((w3.setCell ⟨w.heap.size + 1, 1, none⟩ (.slice A1 m1 c1)).setCell ⟨w.heap.size + 1, 0, none⟩ (.bool sg)).setCell ⟨w.heap.size + 1, 3, none⟩ (.slice (some ⟨w3.heap.size, 0, none⟩) 1 1)).alloc (.cells #[.int .u64 1] 85)) (w.heap.size + 1) = some (.cells #[.bool sg, .slice A1 m1 c1, .bool false, .slice (some ⟨w3.heap.size, 0, none⟩) 1 1] 61 (0, 0))) := ⟨(by simp (disch := first | omega | (simp; omega) | (simp; done) | fail) [hp_new, hp_old, hp_here, hp_other, setObj_cells, hp_drew, hp_drewN, KR3.out])⟩
  have HSA : Aside0 (((((w3.setCell ⟨w.heap.size + 1, 1, none⟩ (.slice A1 m1 c1)).setCell ⟨w.heap.size + 1, 0, none⟩ (.bool sg)).setCell ⟨w.heap.size + 1, 3, none⟩ (.slice (some ⟨w3.heap.size, 0, none⟩) 1 1)).alloc (.cells #[.int .u64 1] 85)).heap.size = w3.heap.size + 1) := ⟨by simp⟩
  clear hset hsetS HB3 HY3 HV3 KF3
  go_wp2_with ((fail_if_success go_at_call 45); (fail_if_success go_at_call 64); go_in)
  obtain ⟨wA, hwA⟩ : ∃ wA, wA = ((((w3.setCell ⟨w.heap.size + 1, 1, none⟩ (.slice A1 m1 c1)).setCell ⟨w.heap.size + 1, 0, none⟩ (.bool sg)).setCell ⟨w.heap.size + 1, 3, none⟩ (.slice (some ⟨w3.heap.size, 0, none⟩) 1 1)).alloc (.cells #[.int .u64 1] 85)) := ⟨_, rfl⟩
  rw [← hwA] at HVB HVS HYS HPA HSA ⊢
  clear hwA KR3 r0 r1 r2 r3 g0 g1 g2 g3 q0 q1 q2
  have HBA := Aside0.mk (Below.refl wA.heap.size wA)
  go_loopw [4, 15] (fun v4 v15 wr => ∃ i : Int, 0 ≤ i ∧ i ≤ l2.length ∧ v15 = .int .i64 i ∧ Aside0 (Kd.R (Kd.int .u64) 85 wr wA.heap.size (fun k => wA.heap.size ≤ k) v4 (l2.take i.toNat)) ∧ Aside0 (Below wA.heap.size wA wr)) (fun _ i _ => l2.length - (intOf i).toNat)
  case atStart => exact ⟨0, by omega, by omega, rfl, ⟨by simpa using Kd.R_nil _ _ _ _ _⟩, ⟨Below.refl _ _⟩⟩
  case round =>
    obtain ⟨i, i0, i1, rfl, HO, HB⟩ := hrel
    by_cases hlt : i < l2.length
    · obtain ⟨Ax, cx, e, _, hC, _⟩ := HYS.out
      injection e with e1 e2 e3
      subst e1 e3
      obtain ⟨ad, e, hx⟩ := Kd.at_int hC i i0 hlt
      cases e
      clear hC
      replace hx := (HB.out.cell (p := ad.add i.toNat) (by have := World.block_lt_of_cell? _ _ hx; simpa using this)).trans hx
      have hs : Aside0 (l2.take (i + 1).toNat = l2.take i.toNat ++ [rd l2 i]) := by
        constructor
        rw [show (i + 1).toNat = i.toNat + 1 by omega, List.take_succ_eq_append_getElem (by omega)]
        simp [rd, List.getD, List.getElem?_eq_getElem (show i.toNat < l2.length by omega)]
      have hlen : (l2.take i.toNat).length ≤ 1000000000000 := by have := HLL2.out; rw [List.length_take]; omega
      have HL := Aside0.mk hlen
      have hsz : wA.heap.size ≤ wr.heap.size := by have := HB.out.size; simpa using this
      have HSZ := Aside0.mk hsz
      clear hlen hsz
      go_wp2_with (first | ((with_reducible refine gate_builtin (b := .append) (xs := #[.tmp 19, .tmp 21]) rfl ?_); at_builtin; go_must (refine Kd.R_append (Kd.int .u64) (w0 := wA) (wA.heap.size) rfl (.tmp 19) (.tmp 21) 56 85 (.int .u64 0) 8 rfl Try.underlying56 infoWord rfl (by decide) (by omega) u4 (l2.take i.toNat) (rd l2 i) [.int .u64 (rd l2 i)] (fun k_ => (wA.heap.size ≤ k_)) (fun _ => False) rfl rfl ?aP (fun _ hk => hk.elim) ?aF ?aO ?aB ?aS ?aL ?_; (case aP => exact rfl); (case aB => first | exact HB.out | exact (Below.alloc HB.out HSZ.out _) | fail); (case aF => exact (fun k_ hk => (Nat.le_trans HSZ.out (by first | omega | (simp at hk; omega) | fail)))); (case aO => first | exact HO.out | exact (Kd.R_alloc HO.out _) | fail); (case aS => first | exact HSZ.out | (have := HSZ.out; simp; omega) | fail); (case aL => have := HL.out; omega); intro v1 w1 ho hb hg hat; rw [← hs.out] at ho; have n0_ := Aside0.mk (hb); have n1_ := Aside0.mk (ho); clear HB; clear HO; have HB := n0_; have HO := n1_; clear n0_ n1_; clear ho hb hg hat)))
      go_roundw
      case rel => first | exact ⟨i + 1, by omega, by omega, rfl, ⟨HO.out⟩, ⟨HB.out⟩⟩ | ((repeat apply Exists.intro); exact ⟨⟨i + 1, by omega, by omega, rfl, ⟨HO.out⟩, ⟨HB.out⟩⟩, rfl, rfl, rfl⟩) | ((repeat apply Exists.intro); exact ⟨⟨i + 1, by omega, by omega, rfl, ⟨HO.out⟩⟩, rfl, rfl, rfl⟩) | fail
      case measure => simp [intOf]; omega
    · have hi : i.toNat = l2.length := by omega
      have ho := HO.out
      rw [hi, List.take_length] at ho
      obtain ⟨A3, c3, e3, q3, r3⟩ := Kd.R_reads ho
      subst e3
      have kr := hp_below HPA.out HB.out
      obtain ⟨r0, r1, r2, r3', g0, g1, g2, g3⟩ := blk4 kr
      have HVF := Aside0.mk (HVS.out.below HB.out)
      have HBF := Aside0.mk (below_step HVB.out HB.out)
      obtain ⟨okA, okc, _, _, _, hok2⟩ := HYS.out
      have HSW := Aside0.mk (show Wd wr (.slice A3 (strip l2).length c3) (ev BW l2) from strip_wd r3 q3 hok2)
      have HR3 := Aside0.mk r3
      have HKR := Aside0.mk kr
      have hAs := HSA.out
      clear kr r3 ho HO HB HBA HYS HVS HVB HPA
      go_wp2_with ((fail_if_success go_at_call 64); go_in)
      refine (norm_c A3 c3 l2 _ HR3.out q3 (by have := HLL2.out; omega)).mono ?_
      rintro e w5 ⟨rfl, rfl⟩
      obtain ⟨n3, hn3⟩ : ∃ n3, n3 = (strip l2).length := ⟨_, rfl⟩
      rw [← hn3] at HSW ⊢
      clear hn3
      have hset : ∀ {u : Value} {z : Int}, Wd wr u z → Wd ((wr.setCell ⟨w.heap.size + 1, 3, none⟩ (.slice A3 n3 c3)).setCell ⟨w.heap.size + 1, 2, none⟩ (.bool false)) u z := by
        intro u z hz
        refine Wd.set (Wd.set hz r3' (by simp) _) (u := .bool false) ?_ (by simp) _
        rw [World.cell?_setCell_other _ _ _ _ (by simp)]; exact r2
      have HV1 := Aside0.mk (hset HVF.out)
      have HV2 := Aside0.mk (hset HSW.out)
      have HBZ := Aside0.mk ((HBF.out.setCell (p := ⟨w.heap.size + 1, 3, none⟩) (by simp) (.slice A3 n3 c3)).setCell (p := ⟨w.heap.size + 1, 2, none⟩) (by simp) (.bool false))
      clear hset HVF HSW HBF
      go_wp2_with ((fail_if_success go_at_call 64); go_in)
      go_ret
      exact ⟨w.heap.size + 1, rfl, by omega, ⟨.slice A1 m1 c1, .slice A3 n3 c3, false, by rw [← HSG.out]; exact (by simp (disch := first | omega | (simp; omega) | (simp; done) | fail) [hp_new, hp_old, hp_here, hp_other, setObj_cells, hp_drew, hp_drewN, HKR.out]), HV1.out, HV2.out⟩, HBZ.out⟩
end Go.Proofs.Ytapofoipfdjfhaa.Sp
end

/-! ## GobR -/
section
namespace Go.Proofs.Ytapofoipfdjfhaa.Sp
open Go.RowKit Go.Proofs.YtapofoipfdjfhaaW.PrintWords Go.Proofs.YtapofoipfdjfhaaW.PrintLast Go.Proofs.YtapofoipfdjfhaaW.PrintMore Go.Proofs.Ytapofoipfdjfhaa.Dig
set_option linter.unusedVariables false
set_option linter.unusedSimpArgs false
theorem strip_rep0 (t : List Int) : ∃ k, t.reverse = strip t.reverse ++ List.replicate k 0 := by
  induction t with
  | nil => exact ⟨0, rfl⟩
  | cons d t ih =>
    rw [List.reverse_cons, strip_snoc]
    by_cases h : d = 0
    · rw [if_pos h]
      obtain ⟨k, e⟩ := ih
      refine ⟨k + 1, ?_⟩
      rw [List.replicate_succ', ← List.append_assoc, ← e, h]
    · rw [if_neg h]
      exact ⟨0, by simp⟩
theorem strip_rep (l : List Int) : ∃ k, l = strip l ++ List.replicate k 0 := by
  have := strip_rep0 l.reverse
  rwa [List.reverse_reverse] at this
theorem wrt_zero (L : Nat) (T bs : List Int) (h : bs.length ≤ L) : wrt (List.replicate L 0 ++ T) L bs = List.replicate (L - (strip bs).length) 0 ++ ((strip bs).reverse ++ T) := by
  obtain ⟨k, e⟩ := strip_rep bs
  have hl : bs.length = (strip bs).length + k := by
    have := congrArg List.length e
    simpa using this
  unfold wrt
  rw [List.take_append_of_le_length (by simp), List.take_replicate, List.drop_append_of_le_length (by simp), List.drop_replicate, Nat.sub_self]
  have e2 : bs.reverse = List.replicate k 0 ++ (strip bs).reverse := by
    conv => lhs; rw [e]
    rw [List.reverse_append, List.reverse_replicate]
  have e3 : List.replicate (min (L - bs.length) L) (0 : Int) ++ List.replicate k 0 = List.replicate (L - (strip bs).length) 0 := by
    rw [List.replicate_append_replicate, Nat.min_eq_left (by omega), show L - bs.length + k = L - (strip bs).length by omega]
  rw [e2, ← e3]
  simp only [List.append_assoc, List.replicate_zero, List.nil_append]
/-- What a length is written as. -/
def be4 (n : Int) : List Int := [n / 16777216 % 256, n / 65536 % 256, n / 256 % 256, n % 256]
theorem be4_b32 (n : Int) (h0 : 0 ≤ n) (h1 : n < 4294967296) (T : List Int) : b32 (be4 n ++ T) = n := by
  simp only [be4, b32, List.cons_append, List.nil_append, List.getD_cons_zero, List.getD_cons_succ]
  omega
theorem enc_C {w : World} {g : Nat} {t : TypeId} (p : Nat) (X : List Int) (h : hp w g = some (.cells (u8s (List.replicate p 0 ++ X)) t (0, 0))) (hX : X.length ≤ 1000000) : Kd.C (Kd.int .u8) w (some ⟨g, p, none⟩) X.length X := by
  refine blk_C _ h p (by omega) (fun i hi => ?_)
  rw [u8s_get _ (p + i) (by simp; omega)]
  congr 2
  simp only [List.getD_eq_getElem?_getD]
  rw [List.getElem?_append_right (by simp), List.length_replicate, Nat.add_sub_cancel_left]
/-- The bytes of a fraction. -/
def enc (sg : Bool) (A B : List Int) : List Int := (if sg then 3 else 2) :: (be4 A.length ++ (A ++ B))
theorem be4_set (p : Nat) (n v : Int) (T : List Int) :
    (((((List.replicate (p + 5) 0 ++ T).set (p + 1) (n / 16777216 % 256)).set (p + 2) (n / 65536 % 256)).set (p + 3) (n / 256 % 256)).set (p + 4) (n % 256)).set p v = List.replicate p 0 ++ (v :: (be4 n ++ T)) := by
  have e : List.replicate (p + 5) (0 : Int) ++ T = List.replicate p 0 ++ (0 :: 0 :: 0 :: 0 :: 0 :: T) := by
    rw [← List.replicate_append_replicate]
    simp [List.replicate]
  rw [e]
  rw [List.set_append_right _ _ (by simp), List.set_append_right _ _ (by simp), List.set_append_right _ _ (by simp), List.set_append_right _ _ (by simp), List.set_append_right _ _ (by simp)]
  simp [be4]
set_option maxHeartbeats 800000 in
set_option maxRecDepth 100000 in
theorem put32_c (g q c : Nat) (xs : List Int) (t : TypeId) (n : Int) (w0 w : World) (hB : Below w0.heap.size w0 w) (hg : w0.heap.size ≤ g) (h : hp w g = some (.cells (u8s xs) t (0, 0))) (hq : q + 4 ≤ xs.length) (hn : 0 ≤ n) :
    Calls Try.prog 51 #[.slice (some ⟨g, q, none⟩) 4 c, .int .u32 n] w fun e w' => e = .returned (.tuple #[]) ∧ hp w' g = some (.cells (u8s ((((xs.set q (n / 16777216 % 256)).set (q + 1) (n / 65536 % 256)).set (q + 2) (n / 256 % 256)).set (q + 3) (n % 256))) t (0, 0)) ∧ Below w0.heap.size w0 w' := by
  have h0 := (blk_cell h q).trans (u8s_get _ q (by omega))
  have h1 := (blk_cell h (q + 1)).trans (u8s_get _ (q + 1) (by omega))
  have h2 := (blk_cell h (q + 2)).trans (u8s_get _ (q + 2) (by omega))
  have h3 := (blk_cell h (q + 3)).trans (u8s_get _ (q + 3) (by omega))
  have f0 := blk_frozen h q
  have f1 := blk_frozen h (q + 1)
  have f2 := blk_frozen h (q + 2)
  have f3 := blk_frozen h (q + 3)
  have H := Aside0.mk h
  have HB := Aside0.mk hB
  generalize xs.getD q 0 = x0 at h0
  generalize xs.getD (q + 1) 0 = x1 at h1
  generalize xs.getD (q + 2) 0 = x2 at h2
  generalize xs.getD (q + 3) 0 = x3 at h3
  clear h hB hq
  go_enter Try.func51, Try.ntmps51
  go_wp2_with (fail)
  refine bodyPost_end (v := .tuple #[]) (by simp [results, Try.results51, go_sem]) rfl ?_
  refine ⟨rfl, ?_, (((HB.out.setCell (p := ⟨g, q, none⟩) hg _).setCell (p := ⟨g, q + 1, none⟩) hg _).setCell (p := ⟨g, q + 2, none⟩) hg _).setCell (p := ⟨g, q + 3, none⟩) hg _⟩
  rw [hp_here _ _ _ _ _ rfl, hp_here _ _ _ _ _ rfl, hp_here _ _ _ _ _ rfl, hp_here _ _ _ _ _ rfl, H.out]
  simp only [Option.map_some, setObj_cells, u8s_set]
theorem enc_part (l : List Int) (n : Int) (h : ev BW l = n ∧ okd BW l) : ∃ A : List Int, (strip (le l)).reverse = A ∧ (strip (le l)).length = A.length ∧ Cn 256 A.reverse ∧ ev 256 A.reverse = n ∧ A.length ≤ 8 * l.length := by
  obtain ⟨s1, s2, _⟩ := strip_cn (le l) (le_ok l)
  refine ⟨_, rfl, by rw [List.length_reverse], by rw [List.reverse_reverse]; exact s1, by rw [List.reverse_reverse, s2, le_ev _ h.2, h.1], ?_⟩
  rw [List.length_reverse, ← le_len]
  exact Cn_take_strip (le_ok l)
theorem gob_nums (i al lal : Nat) (h : 5 + 8 * lal ≤ i) (h3 : i ≤ 500000) (ham : al ≤ 8 * lal) : ∃ j q p : Nat, i - al = j ∧ (i : Int) - (j : Int) = (al : Int) ∧ (j : Int) - 4 = (q : Int) ∧ (j : Int) - 5 = (p : Int) ∧ j - q = 4 ∧ j = p + 5 ∧ j ≤ i ∧ q ≤ j ∧ p < j ∧ q = p + 1 ∧ al ≤ 500000 :=
  ⟨i - al, i - al - 4, i - al - 5, rfl, by omega, by omega, by omega, by omega, by omega, by omega, by omega, by omega, by omega, by omega⟩
theorem u32_nat (a : Nat) (h : a ≤ 500000) : IntKind.u32.wrap (a : Int) = a := by rw [IntKind.wrap_u32]; omega
theorem w64_nat (a : Nat) (h : a ≤ 500000) : wrap64 (a : Int) = a := w64 (by omega) (by omega)
theorem gob_len (a b L : Nat) (h : L = 5 + (a + b) * 8) (ha : a ≤ 25000) (hb : b ≤ 25000) : wrap64 (5 + wrap64 (wrap64 ((a : Int) + b) * 8)) = (L : Int) := by
  rw [show wrap64 ((a : Int) + b) = (a : Int) + b from w64 (by omega) (by omega), show wrap64 (((a : Int) + b) * 8) = ((a : Int) + b) * 8 from w64 (by omega) (by omega), w64 (by omega) (by omega)]
  omega
set_option maxHeartbeats 3200000 in
set_option maxRecDepth 100000 in
theorem gobEncode_c (g : Nat) (sg : Bool) (n d : Int) (w : World) (h : RatB w g sg n d) (hn : n < Lim) (hd : d < Lim) :
    Calls Try.prog 34 #[.pointer (some ⟨g, 0, none⟩)] w fun e w' => ∃ ad c A B, e = .returned (.tuple #[.slice (some ad) (enc sg A B).length c, .nilIface]) ∧ Kd.C (Kd.int .u8) w' (some ad) (enc sg A B).length (enc sg A B) ∧ (enc sg A B).length ≤ c ∧ Cn 256 A.reverse ∧ Cn 256 B.reverse ∧ ev 256 A.reverse = n ∧ ev 256 B.reverse = d ∧ A.length ≤ 200000 ∧ B.length ≤ 200000 ∧ Below w.heap.size w w' := by
  obtain ⟨va, vb, nb, h1, h2, h3⟩ := h
  obtain ⟨Aa, ca, la, e1, j2, j3, j4, j5⟩ := h2
  obtain ⟨Ab, cb, lb, e1', k2, k3, k4, k5⟩ := h3
  subst e1 e1'
  have hla := Lim_lenW j4 (by rw [j5]; exact hn)
  have hlb := Lim_lenW k4 (by rw [k5]; exact hd)
  obtain ⟨c0, c1, c2, c3, _, _, _, _⟩ := blk4 h1
  have hg := hp_lt h1
  obtain ⟨L, hL⟩ : ∃ L, L = 5 + (la.length + lb.length) * 8 := ⟨_, rfl⟩
  have hmk := make_ints 48 5 .u8 1 Try.underlying48 infoU8 (by omega) (L : Int) (L : Int) (by omega) (by omega) (by omega)
  simp only [Int.toNat_natCast, u8s_rep] at hmk
  have hw := gob_len la.length lb.length L hL hla hlb
  have HWA := Aside0.mk (show Ws w (.slice Aa la.length ca) la from ⟨Aa, ca, rfl, j2, j3, j4.ok⟩)
  have HWB := Aside0.mk (show Ws w (.slice Ab lb.length cb) lb from ⟨Ab, cb, rfl, k2, k3, k4.ok⟩)
  have HNA := Aside0.mk (show ev BW la = n ∧ okd BW la from ⟨j5, j4.ok⟩)
  have HNB := Aside0.mk (show ev BW lb = d ∧ okd BW lb from ⟨k5, k4.ok⟩)
  have HLN := Aside0.mk hla
  have HLB := Aside0.mk hlb
  have HR := Aside0.mk h1
  have HLQ := Aside0.mk hL
  have HW := Aside0.mk hw
  clear h1 j2 j3 j4 j5 k2 k3 k4 k5 hn hd hL
  go_enter Try.func34, Try.ntmps34
  go_wp2_with (fail)
  refine start_ (n := 17) (S := fun w' => w'.cell? ⟨g, 1, none⟩ = some (.slice Aa la.length ca) ∧ w'.cell? ⟨g, 3, none⟩ = some (.slice Ab lb.length cb)) (ds := []) #[false, false, false, false, false, false, false, false, false, false, false, false, false, false, false, false, false] (by kernel_rfl) rfl rfl ⟨(by go_simp), (by go_simp)⟩ (fun hHeld => ?_)
  refine pure_ (i := 0) (N := some 11) (v := ?_) (a' := ?_) #[true, false, false, false, false, false, false, false, false, false, false, false, false, false, false, false, false] rfl rfl (by kernel_rfl) (fun _ _ _ h => h) (Or.inl ⟨by rfl, ?_⟩) ?_ ?_
  rotate_left
  · intro w'
    go_simp
    with_reducible rfl
  rotate_left
  · simp only [Act.put, List.setIfInBounds_toArray, List.set_cons_zero, List.set_cons_succ, i64_w, i32_w]
    rfl
  refine pure_ (i := 1) (N := some 12) (v := ?_) (a' := ?_) #[true, true, false, false, false, false, false, false, false, false, false, false, false, false, false, false, false] rfl rfl (by kernel_rfl) (fun _ _ _ h => h) (Or.inl ⟨by rfl, ?_⟩) ?_ ?_
  rotate_left
  · intro w'
    go_simp
    with_reducible rfl
  rotate_left
  · simp only [Act.put, List.setIfInBounds_toArray, List.set_cons_zero, List.set_cons_succ, i64_w, i32_w]
    rfl
  refine pure_ (i := 2) (N := some 13) (v := ?_) (a' := ?_) #[true, true, true, false, false, false, false, false, false, false, false, false, false, false, false, false, false] rfl rfl (by kernel_rfl) (fun _ _ _ h => h) (Or.inl ⟨by rfl, ?_⟩) ?_ ?_
  rotate_left
  · intro w'
    go_simp
    with_reducible rfl
  rotate_left
  · simp only [Act.put, List.setIfInBounds_toArray, List.set_cons_zero, List.set_cons_succ, i64_w, i32_w]
    rfl
  refine pure_ (i := 3) (N := some 14) (v := ?_) (a' := ?_) #[true, true, true, true, false, false, false, false, false, false, false, false, false, false, false, false, false] rfl rfl (by kernel_rfl) (fun _ _ _ h => h) (Or.inl ⟨by rfl, ?_⟩) ?_ ?_
  rotate_left
  · intro w'
    go_simp
    with_reducible rfl
  rotate_left
  · simp only [Act.put, List.setIfInBounds_toArray, List.set_cons_zero, List.set_cons_succ, i64_w, i32_w]
    rfl
  refine pure_ (i := 6) (N := some 17) (v := ?_) (a' := ?_) #[true, true, true, true, false, false, true, false, false, false, false, false, false, false, false, false, false] rfl rfl (by kernel_rfl) (fun _ _ _ h => h) (Or.inl ⟨by rfl, ?_⟩) ?_ ?_
  rotate_left
  · intro w'
    go_simp
    with_reducible rfl
  rotate_left
  · simp only [Act.put, List.setIfInBounds_toArray, List.set_cons_zero, List.set_cons_succ, i64_w, i32_w]
    rfl
  refine pure_ (i := 7) (N := some 18) (v := ?_) (a' := ?_) #[true, true, true, true, false, false, true, true, false, false, false, false, false, false, false, false, false] rfl rfl (by kernel_rfl) (fun _ _ _ h => h) (Or.inl ⟨by rfl, ?_⟩) ?_ ?_
  rotate_left
  · intro w'
    go_simp
    with_reducible rfl
  rotate_left
  · simp only [Act.put, List.setIfInBounds_toArray, List.set_cons_zero, List.set_cons_succ, i64_w, i32_w]
    rfl
  refine pure_ (i := 8) (N := some 19) (v := ?_) (a' := ?_) #[true, true, true, true, false, false, true, true, true, false, false, false, false, false, false, false, false] rfl rfl (by kernel_rfl) (fun _ _ _ h => h) (Or.inl ⟨by rfl, ?_⟩) ?_ ?_
  rotate_left
  · intro w'
    go_simp
    with_reducible rfl
  rotate_left
  · simp only [Act.put, List.setIfInBounds_toArray, List.set_cons_zero, List.set_cons_succ, i64_w, i32_w]
    rfl
  refine pure_ (i := 9) (N := some 20) (v := ?_) (a' := ?_) #[true, true, true, true, false, false, true, true, true, true, false, false, false, false, false, false, false] rfl rfl (by kernel_rfl) (fun _ _ _ h => h) (Or.inl ⟨by rfl, ?_⟩) ?_ ?_
  rotate_left
  · intro w'
    go_simp
    with_reducible rfl
  rotate_left
  · simp only [Act.put, List.setIfInBounds_toArray, List.set_cons_zero, List.set_cons_succ, i64_w, i32_w]
    rfl
  refine take_ (i := 4) (N := some 15) (v := ?_) (a' := ?_) #[true, true, true, true, true, false, true, true, true, true, false, false, false, false, false, false, false] rfl rfl (by kernel_rfl) (fun _ _ _ h => h) (Or.inl ⟨by rfl, ?_⟩) hHeld ?_ ?_
  rotate_left
  · rintro w' ⟨s0, s1⟩
    go_simp
    with_reducible rfl
  rotate_left
  · simp only [Act.put, List.setIfInBounds_toArray, List.set_cons_zero, List.set_cons_succ, i64_w, i32_w]
    rfl
  refine pure_ (i := 5) (N := some 16) (v := ?_) (a' := ?_) #[true, true, true, true, true, true, true, true, true, true, false, false, false, false, false, false, false] rfl rfl (by kernel_rfl) (fun _ _ _ h => h) (Or.inl ⟨by rfl, ?_⟩) ?_ ?_
  rotate_left
  · intro w'
    go_simp
    with_reducible rfl
  rotate_left
  · simp only [Act.put, List.setIfInBounds_toArray, List.set_cons_zero, List.set_cons_succ, i64_w, i32_w]
    rfl
  refine take_ (i := 10) (N := some 21) (v := ?_) (a' := ?_) #[true, true, true, true, true, true, true, true, true, true, true, false, false, false, false, false, false] rfl rfl (by kernel_rfl) (fun _ _ _ h => h) (Or.inl ⟨by rfl, ?_⟩) hHeld ?_ ?_
  rotate_left
  · rintro w' ⟨s0, s1⟩
    go_simp
    with_reducible rfl
  rotate_left
  · simp only [Act.put, List.setIfInBounds_toArray, List.set_cons_zero, List.set_cons_succ, i64_w, i32_w]
    rfl
  refine pure_ (i := 11) (N := some 22) (v := ?_) (a' := ?_) #[true, true, true, true, true, true, true, true, true, true, true, true, false, false, false, false, false] rfl rfl (by kernel_rfl) (fun _ _ _ h => h) (Or.inl ⟨by rfl, ?_⟩) ?_ ?_
  rotate_left
  · intro w'
    go_simp
    with_reducible rfl
  rotate_left
  · simp only [Act.put, List.setIfInBounds_toArray, List.set_cons_zero, List.set_cons_succ, i64_w, i32_w]
    rfl
  refine pure_ (i := 12) (N := some 23) (v := ?_) (a' := ?_) #[true, true, true, true, true, true, true, true, true, true, true, true, true, false, false, false, false] rfl rfl (by kernel_rfl) (fun _ _ _ h => h) (Or.inl ⟨by rfl, ?_⟩) ?_ ?_
  rotate_left
  · intro w'
    go_simp
    with_reducible rfl
  rotate_left
  · simp only [Act.put, List.setIfInBounds_toArray, List.set_cons_zero, List.set_cons_succ, i64_w, i32_w]
    rfl
  refine pure_ (i := 13) (N := some 24) (v := ?_) (a' := ?_) #[true, true, true, true, true, true, true, true, true, true, true, true, true, true, false, false, false] rfl rfl (by kernel_rfl) (fun _ _ _ h => h) (Or.inl ⟨by rfl, ?_⟩) ?_ ?_
  rotate_left
  · intro w'
    go_simp
    with_reducible rfl
  rotate_left
  · simp only [Act.put, List.setIfInBounds_toArray, List.set_cons_zero, List.set_cons_succ, i64_w, i32_w]
    rfl
  refine pure_ (i := 14) (N := some 25) (v := ?_) (a' := ?_) #[true, true, true, true, true, true, true, true, true, true, true, true, true, true, true, false, false] rfl rfl (by kernel_rfl) (fun _ _ _ h => h) (Or.inl ⟨by rfl, ?_⟩) ?_ ?_
  rotate_left
  · intro w'
    go_simp
    with_reducible rfl
  rotate_left
  · simp only [Act.put, List.setIfInBounds_toArray, List.set_cons_zero, List.set_cons_succ, i64_w, i32_w]
    rfl
  refine one_ (i := 15) (N := some 26) #[true, true, true, true, true, true, true, true, true, true, true, true, true, true, true, true, false] rfl rfl (by kernel_rfl) (by decide) (fun K hK => ?_)
  refine value_ (w1 := ?_) (v := ?_) (by rfl) rfl ?_ ?_
  rotate_left 2
  · go_simp
    constructor
    · rfl
    · rfl
  refine hK.out _ _ ⟨(by go_simp), (by go_simp)⟩ (fun hHeld => ?_)
  clear hK K
  refine norm_ (a' := ?_) ?_ ?_
  rotate_left
  · show Act.put _ (some 26) _ = _
    simp only [Act.put, List.setIfInBounds_toArray, List.set_cons_zero, List.set_cons_succ, i64_w, i32_w]
    rfl
  refine pure_ (i := 16) (N := some 4) (v := ?_) (a' := ?_) #[true, true, true, true, true, true, true, true, true, true, true, true, true, true, true, true, true] rfl rfl (by kernel_rfl) (fun _ _ _ h => h) (Or.inl ⟨by rfl, ?_⟩) ?_ ?_
  rotate_left
  · intro w'
    go_simp
    with_reducible rfl
  rotate_left
  · simp only [Act.put, List.setIfInBounds_toArray, List.set_cons_zero, List.set_cons_succ, i64_w, i32_w]
    rfl
  refine done_ (by kernel_rfl) ?_
  go_wp2_with ((fail_if_success go_at_call 49); go_in)
  have HB0 : Aside0 (Below w.heap.size w (w.alloc (.cells (u8s (List.replicate L 0)) 5)).drew) := ⟨below_drew (below_alloc (Below.refl _ _) _)⟩
  refine (bytes_c Ab lb.length cb lb w.heap.size L L (List.replicate L 0) 5 w _ HWB.out HB0.out (Nat.le_refl _) (by simp [hp_drew, hp_new]) (by simp) (by have := HLQ.out; omega) (by have := HLQ.out; omega)).mono ?_
  rintro e w1 ⟨rfl, hq, hb1⟩
  have e1 := wrt_zero L [] (le lb) (by rw [le_len]; have := HLQ.out; omega)
  simp only [List.append_nil] at e1
  rw [e1] at hq
  obtain ⟨B, hB, hBl, hBV1, hBV2, hBm⟩ := enc_part lb d HNB.out
  have HBV := Aside0.mk (And.intro hBV1 hBV2)
  rw [hBl, hB] at hq
  rw [hBl]
  obtain ⟨i, hi⟩ : ∃ i, i = L - B.length := ⟨_, rfl⟩
  have hi2 : 5 + 8 * la.length ≤ i := by have := HLQ.out; omega
  have hi3 : i ≤ 500000 := by have := HLQ.out; omega
  rw [← hi] at hq ⊢
  have HQ := Aside0.mk hq
  have HB1 := Aside0.mk hb1
  have d0 := (hb1.cell (p := ⟨g, 0, none⟩) hg).trans c0
  have c0' := c0
  have c1' := c1
  have d1 := (hb1.cell (p := ⟨g, 1, none⟩) hg).trans c1
  have d3 := (hb1.cell (p := ⟨g, 3, none⟩) hg).trans c3
  have hz1 : w.heap.size < w1.heap.size := hp_lt hq
  have hiL : i ≤ L := by omega
  have HBm := Aside0.mk hBm
  have HI := Aside0.mk hi
  clear hq hb1 e1 HB0 c0 c1 c2 c3 hB hBl hi hBm hBV1 hBV2 HWB HNB hw
  go_wp2_with ((fail_if_success go_at_call 49); go_in)
  have HQ1 : Aside0 (hp w1.drew w.heap.size = some (.cells (u8s (List.replicate i 0 ++ B)) 5 (0, 0))) := ⟨HQ.out⟩
  have HB1' := Aside0.mk (below_drew HB1.out)
  refine start_ (n := 10) (S := fun w' => w'.cell? ⟨g, 1, none⟩ = some (.slice Aa la.length ca)) (ds := []) #[false, false, false, false, false, false, false, false, false, false] (by kernel_rfl) rfl rfl ((by go_simp)) (fun hHeld => ?_)
  refine pure_ (i := 0) (N := some 34) (v := ?_) (a' := ?_) #[true, false, false, false, false, false, false, false, false, false] rfl rfl (by kernel_rfl) (fun _ _ _ h => h) (Or.inl ⟨by rfl, ?_⟩) ?_ ?_
  rotate_left
  · intro w'
    go_simp
    with_reducible rfl
  rotate_left
  · simp only [Act.put, List.setIfInBounds_toArray, List.set_cons_zero, List.set_cons_succ, i64_w, i32_w]
    rfl
  refine pure_ (i := 1) (N := some 35) (v := ?_) (a' := ?_) #[true, true, false, false, false, false, false, false, false, false] rfl rfl (by kernel_rfl) (fun _ _ _ h => h) (Or.inl ⟨by rfl, ?_⟩) ?_ ?_
  rotate_left
  · intro w'
    go_simp
    with_reducible rfl
  rotate_left
  · simp only [Act.put, List.setIfInBounds_toArray, List.set_cons_zero, List.set_cons_succ, i64_w, i32_w]
    rfl
  refine pure_ (i := 2) (N := some 36) (v := ?_) (a' := ?_) #[true, true, true, false, false, false, false, false, false, false] rfl rfl (by kernel_rfl) (fun _ _ _ h => h) (Or.inl ⟨by rfl, ?_⟩) ?_ ?_
  rotate_left
  · intro w'
    go_simp
    with_reducible rfl
  rotate_left
  · simp only [Act.put, List.setIfInBounds_toArray, List.set_cons_zero, List.set_cons_succ, i64_w, i32_w]
    rfl
  refine pure_ (i := 3) (N := some 37) (v := ?_) (a' := ?_) #[true, true, true, true, false, false, false, false, false, false] rfl rfl (by kernel_rfl) (fun _ _ _ h => h) (Or.inl ⟨by rfl, ?_⟩) ?_ ?_
  rotate_left
  · intro w'
    go_simp
    with_reducible rfl
  rotate_left
  · simp only [Act.put, List.setIfInBounds_toArray, List.set_cons_zero, List.set_cons_succ, i64_w, i32_w]
    rfl
  refine pure_ (i := 5) (N := some 39) (v := ?_) (a' := ?_) #[true, true, true, true, false, true, false, false, false, false] rfl rfl (by kernel_rfl) (fun _ _ _ h => h) (Or.inl ⟨by rfl, ?_⟩) ?_ ?_
  rotate_left
  · intro w'
    go_simp
    with_reducible rfl
  rotate_left
  · simp only [Act.put, List.setIfInBounds_toArray, List.set_cons_zero, List.set_cons_succ, i64_w, i32_w]
    rfl
  refine pure_ (i := 6) (N := some 40) (v := ?_) (a' := ?_) #[true, true, true, true, false, true, true, false, false, false] rfl rfl (by kernel_rfl) (fun _ _ _ h => h) (Or.inl ⟨by rfl, ?_⟩) ?_ ?_
  rotate_left
  · intro w'
    go_simp
    with_reducible rfl
  rotate_left
  · simp only [Act.put, List.setIfInBounds_toArray, List.set_cons_zero, List.set_cons_succ, i64_w, i32_w]
    rfl
  refine pure_ (i := 7) (N := some 41) (v := ?_) (a' := ?_) #[true, true, true, true, false, true, true, true, false, false] rfl rfl (by kernel_rfl) (fun _ _ _ h => h) (Or.inl ⟨by rfl, ?_⟩) ?_ ?_
  rotate_left
  · intro w'
    go_simp
    with_reducible rfl
  rotate_left
  · simp only [Act.put, List.setIfInBounds_toArray, List.set_cons_zero, List.set_cons_succ, i64_w, i32_w]
    rfl
  refine take_ (i := 4) (N := some 38) (v := ?_) (a' := ?_) #[true, true, true, true, true, true, true, true, false, false] rfl rfl (by kernel_rfl) (fun _ _ _ h => h) (Or.inl ⟨by rfl, ?_⟩) hHeld ?_ ?_
  rotate_left
  · intro w' s0
    go_simp
    with_reducible rfl
  rotate_left
  · simp only [Act.put, List.setIfInBounds_toArray, List.set_cons_zero, List.set_cons_succ, i64_w, i32_w]
    rfl
  refine one_ (i := 8) (N := some 42) #[true, true, true, true, true, true, true, true, true, false] rfl rfl (by kernel_rfl) (by decide) (fun K hK => ?_)
  refine goes_ Try.func49 (by kernel_rfl) rfl #[.slice Aa la.length ca, .slice (some ⟨w.heap.size, 0, none⟩) i L] (by rfl) rfl rfl (by simp only [List.map_toArray, List.map_cons, List.map_nil]; rfl) ?_
  with_reducible refine (bytes_c Aa la.length ca la w.heap.size i L (List.replicate i 0 ++ B) _ w _ HWA.out HB1'.out (Nat.le_refl _) HQ1.out (by rw [List.length_append, List.length_replicate]; omega) (by omega) (by omega)).mono ?_
  rintro e w2 ⟨rfl, hq, hb2⟩
  refine ⟨_, rfl, ?_⟩
  have HQ2 := Aside0.mk hq
  have HB2 := Aside0.mk hb2
  have d0' := (hb2.cell (p := ⟨g, 0, none⟩) hg).trans c0'
  have d1' := (hb2.cell (p := ⟨g, 1, none⟩) hg).trans c1'
  clear hq hb2
  refine hK.out _ _ (d1') (fun hHeld => ?_)
  clear hK K
  refine norm_ (a' := ?_) ?_ ?_
  rotate_left
  · show Act.put _ (some 42) _ = _
    simp only [Act.put, List.setIfInBounds_toArray, List.set_cons_zero, List.set_cons_succ, i64_w, i32_w]
    rfl
  refine pure_ (i := 9) (N := some 6) (v := ?_) (a' := ?_) #[true, true, true, true, true, true, true, true, true, true] rfl rfl (by kernel_rfl) (fun _ _ _ h => h) (Or.inl ⟨by rfl, ?_⟩) ?_ ?_
  rotate_left
  · intro w'
    go_simp
    with_reducible rfl
  rotate_left
  · simp only [Act.put, List.setIfInBounds_toArray, List.set_cons_zero, List.set_cons_succ, i64_w, i32_w]
    rfl
  refine done_ (by kernel_rfl) ?_
  have hq := HQ2.out
  have e1 := wrt_zero i B (le la) (by rw [le_len]; omega)
  rw [e1] at hq
  obtain ⟨A, hA, hAl, hAV1, hAV2, hAm⟩ := enc_part la n HNA.out
  have HAV := Aside0.mk (And.intro hAV1 hAV2)
  have HAm := Aside0.mk hAm
  rw [hAl, hA] at hq
  rw [hAl]
  obtain ⟨j, q, p, hj, hja, hjq, hjp, hj4, hj5, hji, hqj, hpj, hq1, haM⟩ := gob_nums i A.length la.length hi2 hi3 hAm
  rw [hj] at hq ⊢
  have hw4 := u32_nat _ haM
  have HQP := Aside0.mk hq1
  have HJ := Aside0.mk (And.intro hj hj5)
  clear hq1
  have HQ3 : Aside0 (hp w2 w.heap.size = some (.cells (u8s (List.replicate (p + 5) 0 ++ (A ++ B))) 5 (0, 0))) := ⟨by rw [← hj5]; exact hq⟩
  clear hq e1 hA hAl hAm hAV1 hAV2 hj hj5 HQ2 HQ1 HQ hi2
  go_wp2_with (fail)
  refine (put32_c w.heap.size q (L - q) _ _ _ w _ HB2.out (Nat.le_refl _) HQ3.out (by rw [List.length_append, List.length_replicate, HQP.out]; omega) (by omega)).mono ?_
  rintro e w3 ⟨rfl, hq, hb3⟩
  rw [HQP.out] at hq
  have hc := (blk_cell hq p).trans (u8s_get _ p (by simp; omega))
  have hf := blk_frozen hq p
  have HQ4 := Aside0.mk hq
  have HB3 := Aside0.mk hb3
  have k0 := hp_below HR.out hb3
  obtain ⟨e0, _, _, _, _, _, _, _⟩ := blk4 k0
  generalize List.getD _ p 0 = x0 at hc
  have hpL : p ≤ L := by omega
  have hHB : Aside0 (B.length ≤ L) := ⟨by have := HBm.out; have := HLQ.out; omega⟩
  have HLP : Aside0 ((enc sg A B).length = L - p) := ⟨by
    have h1 := HI.out
    have h2 := HJ.out.1
    have h3 := HJ.out.2
    have h4 := hHB.out
    simp only [enc, be4, List.length_cons, List.length_append, List.length_nil]
    omega⟩
  have HFIN : Aside0 (∀ v : Int, v = (if sg then 3 else 2) → hp (w3.setCell ⟨w.heap.size, p, none⟩ (.int .u8 v)) w.heap.size = some (.cells (u8s (List.replicate p 0 ++ enc sg A B)) 5 (0, 0))) := ⟨by
    rintro v rfl
    rw [hp_here _ _ _ _ _ rfl, HQ4.out]
    simp only [Option.map_some, setObj_cells, u8s_set]
    rw [be4_set]
    rfl⟩
  have HLM : Aside0 (A.length ≤ 200000 ∧ B.length ≤ 200000 ∧ L - p ≤ 1000000) := ⟨⟨by have := HAm.out; omega, by have := HBm.out; omega, by have := HLQ.out; omega⟩⟩
  clear hq hb3 k0 hj4 hjq hqj
  cases sg with
  | false =>
    go_wp2_with (fail)
    refine bodyPost_ret (v := .tuple #[.slice (some ⟨w.heap.size, p, none⟩) (L - p) (L - p), .nilIface]) (by simp [results, Try.results34, go_sem]) rfl ?_
    have hf := HFIN.out 2 rfl
    exact ⟨⟨w.heap.size, p, none⟩, L - p, A, B, by rw [HLP.out], enc_C p _ hf (by rw [HLP.out]; exact HLM.out.2.2), by rw [HLP.out]; omega, HAV.out.1, HBV.out.1, HAV.out.2, HBV.out.2, HLM.out.1, HLM.out.2.1, HB3.out.setCell (p := ⟨w.heap.size, p, none⟩) (Nat.le_refl _) _⟩
  | true =>
    go_wp2_with (fail)
    refine bodyPost_ret (v := .tuple #[.slice (some ⟨w.heap.size, p, none⟩) (L - p) (L - p), .nilIface]) (by simp [results, Try.results34, go_sem]) rfl ?_
    have hf := HFIN.out 3 rfl
    exact ⟨⟨w.heap.size, p, none⟩, L - p, A, B, by rw [HLP.out], enc_C p _ hf (by rw [HLP.out]; exact HLM.out.2.2), by rw [HLP.out]; omega, HAV.out.1, HBV.out.1, HAV.out.2, HBV.out.2, HLM.out.1, HLM.out.2.1, HB3.out.setCell (p := ⟨w.heap.size, p, none⟩) (Nat.le_refl _) _⟩
end Go.Proofs.Ytapofoipfdjfhaa.Sp
end

/-! ## GobD -/
section
namespace Go.Proofs.Ytapofoipfdjfhaa.Sp
open Go.RowKit Go.Proofs.YtapofoipfdjfhaaW.PrintWords Go.Proofs.YtapofoipfdjfhaaW.PrintLast Go.Proofs.YtapofoipfdjfhaaW.PrintMore Go.Proofs.Ytapofoipfdjfhaa.Dig
set_option linter.unusedVariables false
set_option linter.unusedSimpArgs false
set_option maxHeartbeats 800000 in
set_option maxRecDepth 100000 in
theorem setBytes_nil (A : Option Addr) (c : Nat) (w : World) :
    Calls Try.prog 53 #[.slice none 0 0, .slice A 0 c] w fun e w' => ∃ A m c, e = .returned (.slice A m c) ∧ Wd w' (.slice A m c) 0 ∧ Below w.heap.size w w' := by
  go_enter Try.func53, Try.ntmps53
  go_wp2_with (go_in)
  go_loop [5, 6] (fun v5 v6 => v5 = .int .i64 0 ∧ v6 = .int .i64 0) (fun _ _ => 0)
  case atStart => exact ⟨rfl, rfl⟩
  case round =>
    obtain ⟨rfl, rfl⟩ := hrel
    go_wp2_with ((fail_if_success go_at_call 64); go_in)
    refine (norm_c none 0 [] _ (Kd.C_nil _ _) (by simp) (by simp)).mono ?_
    rintro e w2 ⟨rfl, rfl⟩
    go_wp2_with ((fail_if_success go_at_call 64); go_in)
    go_ret
    exact ⟨_, _, _, rfl, Wd.nil _, Below.refl _ _⟩
theorem setBytes_s (ad : Addr) (n c : Nat) (bs : List Int) (w : World) (hC : Kd.C (Kd.int .u8) w (some ad) bs.length bs) (hn : bs.length = n) (hlc : n ≤ c) (hbig : n ≤ 1000000) (hok : okd 256 bs) :
    Calls Try.prog 53 #[.slice none 0 0, .slice (some ad) n c] w fun e w' => ∃ A m c, e = .returned (.slice A m c) ∧ Wd w' (.slice A m c) (ev 256 bs.reverse) ∧ Below w.heap.size w w' := by
  subst hn
  by_cases h0 : bs.length = 0
  · have : bs = [] := List.eq_nil_of_length_eq_zero h0
    subst this
    have := setBytes_nil (some ad) c w
    rw [List.reverse_nil, ev_nil]
    exact this
  · exact setBytes_c ad c bs w hC hlc (by omega) hbig hok
theorem enc_drop1 (sg : Bool) (A B : List Int) : ((enc sg A B).drop 1).take 4 = be4 A.length := by simp [enc, be4]
theorem enc_partA (sg : Bool) (A B : List Int) : ((enc sg A B).drop 5).take A.length = A := by simp [enc, be4]
theorem enc_partB (sg : Bool) (A B : List Int) : (enc sg A B).drop (5 + A.length) = B := by
  rw [Nat.add_comm, ← List.drop_drop]
  simp [enc, be4]
theorem enc_len (sg : Bool) (A B : List Int) : (enc sg A B).length = 5 + A.length + B.length := by simp [enc, be4]; omega
theorem be4_ok (n : Int) : okd 256 (be4 n) := by
  intro d hd
  simp only [be4, List.mem_cons, List.not_mem_nil, or_false] at hd
  rcases hd with rfl | rfl | rfl | rfl <;> omega
theorem enc_ok {sg : Bool} {A B : List Int} (hA : okd 256 A) (hB : okd 256 B) : okd 256 (enc sg A B) := by
  refine okd_cons.2 ⟨by cases sg <;> simp, okd_append.2 ⟨be4_ok _, okd_append.2 ⟨hA, hB⟩⟩⟩
theorem be32_enc (g2 c : Nat) (sg : Bool) (A B : List Int) (w : World) (hC : Kd.C (Kd.int .u8) w (some ⟨g2, 0, none⟩) (enc sg A B).length (enc sg A B)) (hlc : (enc sg A B).length ≤ c) (hA : A.length ≤ 200000) :
    Calls Try.prog 52 #[.slice (some ⟨g2, 1, none⟩) 4 (c - 1)] w fun e w' => e = .returned (.int .u32 A.length) ∧ Below w.heap.size w w' := by
  have hlen := enc_len sg A B
  have h1 := C_sub hC 1 4 (by omega)
  rw [enc_drop1] at h1
  have h2 := be32_c (some ⟨g2, 1, none⟩) (c - 1) (be4 A.length) w h1 (by simp [be4]; omega) (by simp [be4]) (be4_ok _)
  have h3 := be4_b32 A.length (by omega) (by omega) []
  rw [List.append_nil] at h3
  rw [h3] at h2
  exact h2
theorem encA_c (g2 c k : Nat) (sg : Bool) (A B : List Int) (w : World) (hC : Kd.C (Kd.int .u8) w (some ⟨g2, 0, none⟩) (enc sg A B).length (enc sg A B)) (hlc : k ≤ c - 5) (hk : k = A.length) (hok : okd 256 A) (hA : A.length ≤ 200000) :
    Calls Try.prog 53 #[.slice none 0 0, .slice (some ⟨g2, 5, none⟩) k (c - 5)] w fun e w' => ∃ A1 m c, e = .returned (.slice A1 m c) ∧ Wd w' (.slice A1 m c) (ev 256 A.reverse) ∧ Below w.heap.size w w' := by
  have hlen := enc_len sg A B
  have h1 := C_sub hC 5 A.length (by omega)
  rw [enc_partA] at h1
  exact setBytes_s ⟨g2, 5, none⟩ k (c - 5) A w h1 hk.symm hlc (by omega) hok
theorem encB_c (g2 c i l : Nat) (sg : Bool) (A B : List Int) (w : World) (hC : Kd.C (Kd.int .u8) w (some ⟨g2, 0, none⟩) (enc sg A B).length (enc sg A B)) (hlc : l ≤ c) (hi : i = 5 + A.length) (hl : l = (enc sg A B).length) (hok : okd 256 B) (hB : B.length ≤ 200000) :
    Calls Try.prog 53 #[.slice none 0 0, .slice (some ⟨g2, i, none⟩) (l - i) (c - i)] w fun e w' => ∃ A1 m c, e = .returned (.slice A1 m c) ∧ Wd w' (.slice A1 m c) (ev 256 B.reverse) ∧ Below w.heap.size w w' := by
  have hlen := enc_len sg A B
  have h1 := C_sub hC i (l - i) (by omega)
  have h2 : ((enc sg A B).drop i).take (l - i) = B := by rw [hi, enc_partB, List.take_of_length_le (by omega)]
  rw [h2] at h1
  have e : (⟨g2, 0, none⟩ : Addr).add i = ⟨g2, i, none⟩ := by
    unfold Addr.add
    by_cases h : i = 0
    · omega
    · simp [h]
  rw [e] at h1
  exact setBytes_s ⟨g2, i, none⟩ (l - i) (c - i) B w h1 (by omega) (by omega) (by omega) hok
set_option maxHeartbeats 3200000 in
set_option maxRecDepth 100000 in
theorem gobDecode_c (g g2 c : Nat) (sg : Bool) (A B : List Int) (n d : Int) (w : World) (hz : hp w g = some (.cells #[.bool false, .slice none 0 0, .bool false, .slice none 0 0] 61 (0, 0))) (hC : Kd.C (Kd.int .u8) w (some ⟨g2, 0, none⟩) (enc sg A B).length (enc sg A B)) (hlc : (enc sg A B).length ≤ c) (hA : Cn 256 A.reverse) (hB : Cn 256 B.reverse) (hn : ev 256 A.reverse = n) (hd : ev 256 B.reverse = d) (hd0 : 0 < d) (hAl : A.length ≤ 200000) (hBl : B.length ≤ 200000) :
    Calls Try.prog 35 #[.pointer (some ⟨g, 0, none⟩), .slice (some ⟨g2, 0, none⟩) (enc sg A B).length c] w fun e w' => e = .returned .nilIface ∧ RatB w' g sg n d ∧ ∀ w0 : World, Below w0.heap.size w0 w → w0.heap.size ≤ g → Below w0.heap.size w0 w' := by
  have hokA : okd 256 A := fun x hx => hA.ok x (List.mem_reverse.2 hx)
  have hokB : okd 256 B := fun x hx => hB.ok x (List.mem_reverse.2 hx)
  have hBne : 0 < B.length := by
    rcases Nat.eq_zero_or_pos B.length with h | h
    · rw [List.eq_nil_of_length_eq_zero h, List.reverse_nil, ev_nil] at hd
      omega
    · exact h
  have hlen := enc_len sg A B
  have h0 := Kd.at_int hC 0 (by omega) (by omega)
  obtain ⟨_, e, h0⟩ := h0
  cases e
  have hb0 : w.cell? ⟨g2, 0, none⟩ = some (.int .u8 (if sg then 3 else 2)) := h0
  obtain ⟨z0, z1, z2, z3, f0, f1, f2, f3⟩ := blk4 hz
  have hg := hp_lt hz
  have H32 := Aside0.mk (be32_enc g2 c sg A B w hC hlc hAl)
  have HC := Aside0.mk hC
  have HLEN := Aside0.mk hlen
  have HZ := Aside0.mk hz
  obtain ⟨k, hk⟩ : ∃ k, k = A.length := ⟨_, rfl⟩
  obtain ⟨i, hi⟩ : ∃ i, i = 5 + k := ⟨_, rfl⟩
  obtain ⟨l, hl⟩ : ∃ l, l = (enc sg A B).length := ⟨_, rfl⟩
  have hki : (5 : Int) + (k : Int) = (i : Int) := by omega
  have hil : i < l := by omega
  have h5l : 5 ≤ l := by omega
  have hlc2 : l ≤ c := by omega
  have hc1 : ¬ c = 1 := by omega
  have hc5 : ¬ c = 5 := by omega
  have hci : ¬ c = i := by omega
  have hiM : i ≤ 300000 := by omega
  have hlM : l ≤ 500000 := by omega
  have hl0 : ¬ l = 0 := by omega
  have hkM : k ≤ 200000 := by omega
  rw [← hk] at H32
  have HK := Aside0.mk hk
  have HI := Aside0.mk hi
  have HLL := Aside0.mk hl
  have hi5 : i - 5 = k := by omega
  have hic : i ≤ c := by omega
  have hil2 : i ≤ l := by omega
  have h5i : (5 : Int) ≤ (i : Int) := by omega
  have HKC := Aside0.mk (show k ≤ c - 5 by omega)
  have HAL := Aside0.mk hAl
  have HBL := Aside0.mk hBl
  rw [← hl]
  clear hC h0 hz hlen hlc hk hi hl hAl hBl
  cases sg with
  | false =>
    have hb0 : w.cell? ⟨g2, 0, none⟩ = some (.int .u8 2) := hb0
    have hbit : (Go.bits .and .u8 2 1 != 0) = false := by decide
    go_enter Try.func35, Try.ntmps35
    go_wp2_with (fail)
    refine H32.out.mono ?_
    rintro e w1 ⟨rfl, hb1⟩
    have hz1 := hp_below HZ.out hb1
    obtain ⟨y0, y1, y2, y3, e0, e1, e2, e3⟩ := blk4 hz1
    have hg1 := hp_lt hz1
    have HC1 := Aside0.mk (C_set (Kd.C_below HC.out hb1) y0 (by simp) (.bool false))
    have HZ1 : Aside0 (hp (w1.setCell ⟨g, 0, none⟩ (.bool false)).drew g = some (.cells #[.bool false, .slice none 0 0, .bool false, .slice none 0 0] 61 (0, 0))) := ⟨by rw [hp_drew, hp_here _ _ _ _ _ rfl, hz1]; rfl⟩
    have HB1 : Aside0 (∀ w0 : World, Below w0.heap.size w0 w → w0.heap.size ≤ g → Below w0.heap.size w0 (w1.setCell ⟨g, 0, none⟩ (.bool false))) := ⟨fun w0 h0 h1 => (below_step h0 hb1).setCell (p := ⟨g, 0, none⟩) h1 _⟩
    clear hz1 hb1 HC HZ z0 z1 z2 z3 f0 f1 f2 f3 hb0
    go_wp2_with (fail)
    have HC1' := Aside0.mk (Kd.C_below HC1.out (below_drew (Below.refl _ _)))
    refine start_ (n := 14) (S := fun w' => w'.cell? ⟨g, 1, none⟩ = some (.slice none 0 0)) (ds := [13]) #[false, false, false, false, false, false, false, false, false, false, false, false, false, false] (by kernel_rfl) rfl rfl ((by go_simp)) (fun hHeld => ?_)
    refine pure_ (i := 0) (N := some 47) (v := ?_) (a' := ?_) #[true, false, false, false, false, false, false, false, false, false, false, false, false, false] rfl rfl (by kernel_rfl) (fun _ _ _ h => h) (Or.inl ⟨by rfl, ?_⟩) ?_ ?_
    rotate_left
    · intro w'
      go_simp
      with_reducible rfl
    rotate_left
    · simp only [Act.put, List.setIfInBounds_toArray, List.set_cons_zero, List.set_cons_succ, i64_w, i32_w]
      rfl
    refine pure_ (i := 1) (N := some 48) (v := ?_) (a' := ?_) #[true, true, false, false, false, false, false, false, false, false, false, false, false, false] rfl rfl (by kernel_rfl) (fun _ _ _ h => h) (Or.inl ⟨by rfl, ?_⟩) ?_ ?_
    rotate_left
    · intro w'
      go_simp
      with_reducible rfl
    rotate_left
    · simp only [Act.put, List.setIfInBounds_toArray, List.set_cons_zero, List.set_cons_succ, i64_w, i32_w]
      rfl
    refine pure_ (i := 2) (N := some 49) (v := ?_) (a' := ?_) #[true, true, true, false, false, false, false, false, false, false, false, false, false, false] rfl rfl (by kernel_rfl) (fun _ _ _ h => h) (Or.inl ⟨by rfl, ?_⟩) ?_ ?_
    rotate_left
    · intro w'
      go_simp
      with_reducible rfl
    rotate_left
    · simp only [Act.put, List.setIfInBounds_toArray, List.set_cons_zero, List.set_cons_succ, i64_w, i32_w]
      rfl
    refine pure_ (i := 3) (N := some 50) (v := ?_) (a' := ?_) #[true, true, true, true, false, false, false, false, false, false, false, false, false, false] rfl rfl (by kernel_rfl) (fun _ _ _ h => h) (Or.inl ⟨by rfl, ?_⟩) ?_ ?_
    rotate_left
    · intro w'
      go_simp
      with_reducible rfl
    rotate_left
    · simp only [Act.put, List.setIfInBounds_toArray, List.set_cons_zero, List.set_cons_succ, i64_w, i32_w]
      rfl
    refine pure_ (i := 4) (N := some 51) (v := ?_) (a' := ?_) #[true, true, true, true, true, false, false, false, false, false, false, false, false, false] rfl rfl (by kernel_rfl) (fun _ _ _ h => h) (Or.inl ⟨by rfl, ?_⟩) ?_ ?_
    rotate_left
    · intro w'
      go_simp
      with_reducible rfl
    rotate_left
    · simp only [Act.put, List.setIfInBounds_toArray, List.set_cons_zero, List.set_cons_succ, i64_w, i32_w]
      rfl
    refine pure_ (i := 6) (N := some 53) (v := ?_) (a' := ?_) #[true, true, true, true, true, false, true, false, false, false, false, false, false, false] rfl rfl (by kernel_rfl) (fun _ _ _ h => h) (Or.inl ⟨by rfl, ?_⟩) ?_ ?_
    rotate_left
    · intro w'
      go_simp
      with_reducible rfl
    rotate_left
    · simp only [Act.put, List.setIfInBounds_toArray, List.set_cons_zero, List.set_cons_succ, i64_w, i32_w]
      rfl
    refine pure_ (i := 7) (N := some 54) (v := ?_) (a' := ?_) #[true, true, true, true, true, false, true, true, false, false, false, false, false, false] rfl rfl (by kernel_rfl) (fun _ _ _ h => h) (Or.inl ⟨by rfl, ?_⟩) ?_ ?_
    rotate_left
    · intro w'
      go_simp
      with_reducible rfl
    rotate_left
    · simp only [Act.put, List.setIfInBounds_toArray, List.set_cons_zero, List.set_cons_succ, i64_w, i32_w]
      rfl
    refine pure_ (i := 8) (N := some 55) (v := ?_) (a' := ?_) #[true, true, true, true, true, false, true, true, true, false, false, false, false, false] rfl rfl (by kernel_rfl) (fun _ _ _ h => h) (Or.inl ⟨by rfl, ?_⟩) ?_ ?_
    rotate_left
    · intro w'
      go_simp
      with_reducible rfl
    rotate_left
    · simp only [Act.put, List.setIfInBounds_toArray, List.set_cons_zero, List.set_cons_succ, i64_w, i32_w]
      rfl
    refine take_ (i := 5) (N := some 52) (v := ?_) (a' := ?_) #[true, true, true, true, true, true, true, true, true, false, false, false, false, false] rfl rfl (by kernel_rfl) (fun _ _ _ h => h) (Or.inl ⟨by rfl, ?_⟩) hHeld ?_ ?_
    rotate_left
    · intro w' s0
      go_simp
      with_reducible rfl
    rotate_left
    · simp only [Act.put, List.setIfInBounds_toArray, List.set_cons_zero, List.set_cons_succ, i64_w, i32_w]
      rfl
    refine one_ (i := 9) (N := some 56) #[true, true, true, true, true, true, true, true, true, true, false, false, false, false] rfl rfl (by kernel_rfl) (by decide) (fun K hK => ?_)
    refine goes_ Try.func53 (by kernel_rfl) rfl #[.slice none 0 0, .slice (some ⟨g2, 5, none⟩) k (c - 5)] (by rfl) rfl rfl (by simp only [List.map_toArray, List.map_cons, List.map_nil]; rfl) ?_
    with_reducible refine (encA_c g2 c k false A B _ HC1'.out HKC.out HK.out hokA HAL.out).mono ?_
    rintro e w2 ⟨A1, m1, c1, rfl, hv, hb2⟩
    refine ⟨_, rfl, ?_⟩
    have hz2 := hp_below HZ1.out hb2
    have HZ2 := Aside0.mk hz2
    have HC2 := Aside0.mk (Kd.C_below HC1'.out hb2)
    have HB2 := Aside0.mk hb2
    have HV2 := Aside0.mk hv
    obtain ⟨x0, x1, x2, x3, k0, k1, k2, k3⟩ := blk4 hz2
    have hg2 := hp_lt hz2
    clear hz2 hb2 hv
    refine hK.out _ _ (x1) (fun hHeld => ?_)
    clear hK K
    refine norm_ (a' := ?_) ?_ ?_
    rotate_left
    · show Act.put _ (some 56) _ = _
      simp only [Act.put, List.setIfInBounds_toArray, List.set_cons_zero, List.set_cons_succ, i64_w, i32_w]
      rfl
    refine pure_ (i := 10) (N := some 57) (v := ?_) (a' := ?_) #[true, true, true, true, true, true, true, true, true, true, true, false, false, false] rfl rfl (by kernel_rfl) (fun _ _ _ h => h) (Or.inl ⟨by rfl, ?_⟩) ?_ ?_
    rotate_left
    · intro w'
      go_simp
      with_reducible rfl
    rotate_left
    · simp only [Act.put, List.setIfInBounds_toArray, List.set_cons_zero, List.set_cons_succ, i64_w, i32_w]
      rfl
    refine pure_ (i := 11) (N := some 58) (v := ?_) (a' := ?_) #[true, true, true, true, true, true, true, true, true, true, true, true, false, false] rfl rfl (by kernel_rfl) (fun _ _ _ h => h) (Or.inl ⟨by rfl, ?_⟩) ?_ ?_
    rotate_left
    · intro w'
      go_simp
      with_reducible rfl
    rotate_left
    · simp only [Act.put, List.setIfInBounds_toArray, List.set_cons_zero, List.set_cons_succ, i64_w, i32_w]
      rfl
    refine pure_ (i := 12) (N := some 59) (v := ?_) (a' := ?_) #[true, true, true, true, true, true, true, true, true, true, true, true, true, false] rfl rfl (by kernel_rfl) (fun _ _ _ h => h) (Or.inl ⟨by rfl, ?_⟩) ?_ ?_
    rotate_left
    · intro w'
      go_simp
      with_reducible rfl
    rotate_left
    · simp only [Act.put, List.setIfInBounds_toArray, List.set_cons_zero, List.set_cons_succ, i64_w, i32_w]
      rfl
    refine last_ (i := 13) (N := none) #[true, true, true, true, true, true, true, true, true, true, true, true, true, true] rfl rfl (by kernel_rfl) (by decide) (fun K hK => ?_)
    refine skip_ (w1 := ?_) (by rfl) rfl ?_ ?_
    rotate_left
    · go_simp
      rfl
    refine hK.out _ _ ?_
    clear hK K
    refine done_ (by kernel_rfl) ?_
    have HZ3 : Aside0 (hp (w2.setCell ⟨g, 1, none⟩ (.slice A1 m1 c1)).drew g = some (.cells #[.bool false, .slice A1 m1 c1, .bool false, .slice none 0 0] 61 (0, 0))) := ⟨by rw [hp_drew, hp_here _ _ _ _ _ rfl, HZ2.out]; rfl⟩
    have HC3 := Aside0.mk (Kd.C_below (C_set HC2.out x1 (by simp) (.slice A1 m1 c1)) (below_drew (Below.refl _ _)))
    have HV3 := Aside0.mk ((HV2.out.set x1 (by simp) (.slice A1 m1 c1)).below (below_drew (Below.refl _ _)))
    have HB3 : Aside0 (∀ w0 : World, Below w0.heap.size w0 w → w0.heap.size ≤ g → Below w0.heap.size w0 (w2.setCell ⟨g, 1, none⟩ (.slice A1 m1 c1)).drew) := ⟨fun w0 h0 h1 => below_drew ((below_step (below_drew (HB1.out w0 h0 h1)) HB2.out).setCell (p := ⟨g, 1, none⟩) h1 _)⟩
    clear HZ1 HZ2 HC1 HC1' HC2 HV2 HB1 HB2 y0 y1 y2 y3 e0 e1 e2 e3
    go_wp2_with (fail)
    refine start_ (n := 14) (S := fun w' => w'.cell? ⟨g, 3, none⟩ = some (.slice none 0 0)) (ds := [13]) #[false, false, false, false, false, false, false, false, false, false, false, false, false, false] (by kernel_rfl) rfl rfl ((by go_simp)) (fun hHeld => ?_)
    refine pure_ (i := 0) (N := some 60) (v := ?_) (a' := ?_) #[true, false, false, false, false, false, false, false, false, false, false, false, false, false] rfl rfl (by kernel_rfl) (fun _ _ _ h => h) (Or.inl ⟨by rfl, ?_⟩) ?_ ?_
    rotate_left
    · intro w'
      go_simp
      with_reducible rfl
    rotate_left
    · simp only [Act.put, List.setIfInBounds_toArray, List.set_cons_zero, List.set_cons_succ, i64_w, i32_w]
      rfl
    refine pure_ (i := 1) (N := some 61) (v := ?_) (a' := ?_) #[true, true, false, false, false, false, false, false, false, false, false, false, false, false] rfl rfl (by kernel_rfl) (fun _ _ _ h => h) (Or.inl ⟨by rfl, ?_⟩) ?_ ?_
    rotate_left
    · intro w'
      go_simp
      with_reducible rfl
    rotate_left
    · simp only [Act.put, List.setIfInBounds_toArray, List.set_cons_zero, List.set_cons_succ, i64_w, i32_w]
      rfl
    refine pure_ (i := 2) (N := some 62) (v := ?_) (a' := ?_) #[true, true, true, false, false, false, false, false, false, false, false, false, false, false] rfl rfl (by kernel_rfl) (fun _ _ _ h => h) (Or.inl ⟨by rfl, ?_⟩) ?_ ?_
    rotate_left
    · intro w'
      go_simp
      with_reducible rfl
    rotate_left
    · simp only [Act.put, List.setIfInBounds_toArray, List.set_cons_zero, List.set_cons_succ, i64_w, i32_w]
      rfl
    refine pure_ (i := 3) (N := some 63) (v := ?_) (a' := ?_) #[true, true, true, true, false, false, false, false, false, false, false, false, false, false] rfl rfl (by kernel_rfl) (fun _ _ _ h => h) (Or.inl ⟨by rfl, ?_⟩) ?_ ?_
    rotate_left
    · intro w'
      go_simp
      with_reducible rfl
    rotate_left
    · simp only [Act.put, List.setIfInBounds_toArray, List.set_cons_zero, List.set_cons_succ, i64_w, i32_w]
      rfl
    refine pure_ (i := 4) (N := some 64) (v := ?_) (a' := ?_) #[true, true, true, true, true, false, false, false, false, false, false, false, false, false] rfl rfl (by kernel_rfl) (fun _ _ _ h => h) (Or.inl ⟨by rfl, ?_⟩) ?_ ?_
    rotate_left
    · intro w'
      go_simp
      with_reducible rfl
    rotate_left
    · simp only [Act.put, List.setIfInBounds_toArray, List.set_cons_zero, List.set_cons_succ, i64_w, i32_w]
      rfl
    refine pure_ (i := 6) (N := some 66) (v := ?_) (a' := ?_) #[true, true, true, true, true, false, true, false, false, false, false, false, false, false] rfl rfl (by kernel_rfl) (fun _ _ _ h => h) (Or.inl ⟨by rfl, ?_⟩) ?_ ?_
    rotate_left
    · intro w'
      go_simp
      with_reducible rfl
    rotate_left
    · simp only [Act.put, List.setIfInBounds_toArray, List.set_cons_zero, List.set_cons_succ, i64_w, i32_w]
      rfl
    refine pure_ (i := 7) (N := some 67) (v := ?_) (a' := ?_) #[true, true, true, true, true, false, true, true, false, false, false, false, false, false] rfl rfl (by kernel_rfl) (fun _ _ _ h => h) (Or.inl ⟨by rfl, ?_⟩) ?_ ?_
    rotate_left
    · intro w'
      go_simp
      with_reducible rfl
    rotate_left
    · simp only [Act.put, List.setIfInBounds_toArray, List.set_cons_zero, List.set_cons_succ, i64_w, i32_w]
      rfl
    refine pure_ (i := 8) (N := some 68) (v := ?_) (a' := ?_) #[true, true, true, true, true, false, true, true, true, false, false, false, false, false] rfl rfl (by kernel_rfl) (fun _ _ _ h => h) (Or.inl ⟨by rfl, ?_⟩) ?_ ?_
    rotate_left
    · intro w'
      go_simp
      with_reducible rfl
    rotate_left
    · simp only [Act.put, List.setIfInBounds_toArray, List.set_cons_zero, List.set_cons_succ, i64_w, i32_w]
      rfl
    refine take_ (i := 5) (N := some 65) (v := ?_) (a' := ?_) #[true, true, true, true, true, true, true, true, true, false, false, false, false, false] rfl rfl (by kernel_rfl) (fun _ _ _ h => h) (Or.inl ⟨by rfl, ?_⟩) hHeld ?_ ?_
    rotate_left
    · intro w' s0
      go_simp
      with_reducible rfl
    rotate_left
    · simp only [Act.put, List.setIfInBounds_toArray, List.set_cons_zero, List.set_cons_succ, i64_w, i32_w]
      rfl
    refine one_ (i := 9) (N := some 69) #[true, true, true, true, true, true, true, true, true, true, false, false, false, false] rfl rfl (by kernel_rfl) (by decide) (fun K hK => ?_)
    refine goes_ Try.func53 (by kernel_rfl) rfl #[.slice none 0 0, .slice (some ⟨g2, i, none⟩) (l - i) (c - i)] (by rfl) rfl rfl (by simp only [List.map_toArray, List.map_cons, List.map_nil]; rfl) ?_
    with_reducible refine (encB_c g2 c i l false A B _ HC3.out hlc2 (by rw [HI.out, HK.out]) HLL.out hokB HBL.out).mono ?_
    rintro e w4 ⟨A2, m2, c2, rfl, hv, hb2⟩
    refine ⟨_, rfl, ?_⟩
    have hz2 := hp_below HZ3.out hb2
    have HZ4 := Aside0.mk hz2
    have HB4 := Aside0.mk hb2
    have HV4 := Aside0.mk hv
    have HW4 := Aside0.mk (HV3.out.below hb2)
    obtain ⟨r0, r1, r2, r3, q0, q1, q2, q3⟩ := blk4 hz2
    have hg4 := hp_lt hz2
    clear hz2 hb2 hv
    refine hK.out _ _ (r3) (fun hHeld => ?_)
    clear hK K
    refine norm_ (a' := ?_) ?_ ?_
    rotate_left
    · show Act.put _ (some 69) _ = _
      simp only [Act.put, List.setIfInBounds_toArray, List.set_cons_zero, List.set_cons_succ, i64_w, i32_w]
      rfl
    refine pure_ (i := 10) (N := some 70) (v := ?_) (a' := ?_) #[true, true, true, true, true, true, true, true, true, true, true, false, false, false] rfl rfl (by kernel_rfl) (fun _ _ _ h => h) (Or.inl ⟨by rfl, ?_⟩) ?_ ?_
    rotate_left
    · intro w'
      go_simp
      with_reducible rfl
    rotate_left
    · simp only [Act.put, List.setIfInBounds_toArray, List.set_cons_zero, List.set_cons_succ, i64_w, i32_w]
      rfl
    refine pure_ (i := 11) (N := some 71) (v := ?_) (a' := ?_) #[true, true, true, true, true, true, true, true, true, true, true, true, false, false] rfl rfl (by kernel_rfl) (fun _ _ _ h => h) (Or.inl ⟨by rfl, ?_⟩) ?_ ?_
    rotate_left
    · intro w'
      go_simp
      with_reducible rfl
    rotate_left
    · simp only [Act.put, List.setIfInBounds_toArray, List.set_cons_zero, List.set_cons_succ, i64_w, i32_w]
      rfl
    refine pure_ (i := 12) (N := some 72) (v := ?_) (a' := ?_) #[true, true, true, true, true, true, true, true, true, true, true, true, true, false] rfl rfl (by kernel_rfl) (fun _ _ _ h => h) (Or.inl ⟨by rfl, ?_⟩) ?_ ?_
    rotate_left
    · intro w'
      go_simp
      with_reducible rfl
    rotate_left
    · simp only [Act.put, List.setIfInBounds_toArray, List.set_cons_zero, List.set_cons_succ, i64_w, i32_w]
      rfl
    refine last_ (i := 13) (N := none) #[true, true, true, true, true, true, true, true, true, true, true, true, true, true] rfl rfl (by kernel_rfl) (by decide) (fun K hK => ?_)
    refine skip_ (w1 := ?_) (by rfl) rfl ?_ ?_
    rotate_left
    · go_simp
      rfl
    refine hK.out _ _ ?_
    clear hK K
    refine done_ (by kernel_rfl) ?_
    have HZ5 : Aside0 (hp (w4.setCell ⟨g, 3, none⟩ (.slice A2 m2 c2)) g = some (.cells #[.bool false, .slice A1 m1 c1, .bool false, .slice A2 m2 c2] 61 (0, 0))) := ⟨by rw [hp_here _ _ _ _ _ rfl, HZ4.out]; rfl⟩
    have HV5 := Aside0.mk (HV4.out.set r3 (by simp) (.slice A2 m2 c2))
    have HW5 := Aside0.mk (HW4.out.set r3 (by simp) (.slice A2 m2 c2))
    go_wp2_with (fail)
    go_ret
    exact ⟨rfl, ⟨.slice A1 m1 c1, .slice A2 m2 c2, false, HZ5.out, by rw [← hn]; exact HW5.out, by rw [← hd]; exact HV5.out⟩, fun w0 h0 h1 => (below_step (HB3.out w0 h0 h1) HB4.out).setCell (p := ⟨g, 3, none⟩) h1 _⟩
  | true =>
    have hb0 : w.cell? ⟨g2, 0, none⟩ = some (.int .u8 3) := hb0
    have hbit : (Go.bits .and .u8 3 1 != 0) = true := by decide
    go_enter Try.func35, Try.ntmps35
    go_wp2_with (fail)
    refine H32.out.mono ?_
    rintro e w1 ⟨rfl, hb1⟩
    have hz1 := hp_below HZ.out hb1
    obtain ⟨y0, y1, y2, y3, e0, e1, e2, e3⟩ := blk4 hz1
    have hg1 := hp_lt hz1
    have HC1 := Aside0.mk (C_set (Kd.C_below HC.out hb1) y0 (by simp) (.bool true))
    have HZ1 : Aside0 (hp (w1.setCell ⟨g, 0, none⟩ (.bool true)).drew g = some (.cells #[.bool true, .slice none 0 0, .bool false, .slice none 0 0] 61 (0, 0))) := ⟨by rw [hp_drew, hp_here _ _ _ _ _ rfl, hz1]; rfl⟩
    have HB1 : Aside0 (∀ w0 : World, Below w0.heap.size w0 w → w0.heap.size ≤ g → Below w0.heap.size w0 (w1.setCell ⟨g, 0, none⟩ (.bool true))) := ⟨fun w0 h0 h1 => (below_step h0 hb1).setCell (p := ⟨g, 0, none⟩) h1 _⟩
    clear hz1 hb1 HC HZ z0 z1 z2 z3 f0 f1 f2 f3 hb0
    go_wp2_with (fail)
    have HC1' := Aside0.mk (Kd.C_below HC1.out (below_drew (Below.refl _ _)))
    refine start_ (n := 14) (S := fun w' => w'.cell? ⟨g, 1, none⟩ = some (.slice none 0 0)) (ds := [13]) #[false, false, false, false, false, false, false, false, false, false, false, false, false, false] (by kernel_rfl) rfl rfl ((by go_simp)) (fun hHeld => ?_)
    refine pure_ (i := 0) (N := some 47) (v := ?_) (a' := ?_) #[true, false, false, false, false, false, false, false, false, false, false, false, false, false] rfl rfl (by kernel_rfl) (fun _ _ _ h => h) (Or.inl ⟨by rfl, ?_⟩) ?_ ?_
    rotate_left
    · intro w'
      go_simp
      with_reducible rfl
    rotate_left
    · simp only [Act.put, List.setIfInBounds_toArray, List.set_cons_zero, List.set_cons_succ, i64_w, i32_w]
      rfl
    refine pure_ (i := 1) (N := some 48) (v := ?_) (a' := ?_) #[true, true, false, false, false, false, false, false, false, false, false, false, false, false] rfl rfl (by kernel_rfl) (fun _ _ _ h => h) (Or.inl ⟨by rfl, ?_⟩) ?_ ?_
    rotate_left
    · intro w'
      go_simp
      with_reducible rfl
    rotate_left
    · simp only [Act.put, List.setIfInBounds_toArray, List.set_cons_zero, List.set_cons_succ, i64_w, i32_w]
      rfl
    refine pure_ (i := 2) (N := some 49) (v := ?_) (a' := ?_) #[true, true, true, false, false, false, false, false, false, false, false, false, false, false] rfl rfl (by kernel_rfl) (fun _ _ _ h => h) (Or.inl ⟨by rfl, ?_⟩) ?_ ?_
    rotate_left
    · intro w'
      go_simp
      with_reducible rfl
    rotate_left
    · simp only [Act.put, List.setIfInBounds_toArray, List.set_cons_zero, List.set_cons_succ, i64_w, i32_w]
      rfl
    refine pure_ (i := 3) (N := some 50) (v := ?_) (a' := ?_) #[true, true, true, true, false, false, false, false, false, false, false, false, false, false] rfl rfl (by kernel_rfl) (fun _ _ _ h => h) (Or.inl ⟨by rfl, ?_⟩) ?_ ?_
    rotate_left
    · intro w'
      go_simp
      with_reducible rfl
    rotate_left
    · simp only [Act.put, List.setIfInBounds_toArray, List.set_cons_zero, List.set_cons_succ, i64_w, i32_w]
      rfl
    refine pure_ (i := 4) (N := some 51) (v := ?_) (a' := ?_) #[true, true, true, true, true, false, false, false, false, false, false, false, false, false] rfl rfl (by kernel_rfl) (fun _ _ _ h => h) (Or.inl ⟨by rfl, ?_⟩) ?_ ?_
    rotate_left
    · intro w'
      go_simp
      with_reducible rfl
    rotate_left
    · simp only [Act.put, List.setIfInBounds_toArray, List.set_cons_zero, List.set_cons_succ, i64_w, i32_w]
      rfl
    refine pure_ (i := 6) (N := some 53) (v := ?_) (a' := ?_) #[true, true, true, true, true, false, true, false, false, false, false, false, false, false] rfl rfl (by kernel_rfl) (fun _ _ _ h => h) (Or.inl ⟨by rfl, ?_⟩) ?_ ?_
    rotate_left
    · intro w'
      go_simp
      with_reducible rfl
    rotate_left
    · simp only [Act.put, List.setIfInBounds_toArray, List.set_cons_zero, List.set_cons_succ, i64_w, i32_w]
      rfl
    refine pure_ (i := 7) (N := some 54) (v := ?_) (a' := ?_) #[true, true, true, true, true, false, true, true, false, false, false, false, false, false] rfl rfl (by kernel_rfl) (fun _ _ _ h => h) (Or.inl ⟨by rfl, ?_⟩) ?_ ?_
    rotate_left
    · intro w'
      go_simp
      with_reducible rfl
    rotate_left
    · simp only [Act.put, List.setIfInBounds_toArray, List.set_cons_zero, List.set_cons_succ, i64_w, i32_w]
      rfl
    refine pure_ (i := 8) (N := some 55) (v := ?_) (a' := ?_) #[true, true, true, true, true, false, true, true, true, false, false, false, false, false] rfl rfl (by kernel_rfl) (fun _ _ _ h => h) (Or.inl ⟨by rfl, ?_⟩) ?_ ?_
    rotate_left
    · intro w'
      go_simp
      with_reducible rfl
    rotate_left
    · simp only [Act.put, List.setIfInBounds_toArray, List.set_cons_zero, List.set_cons_succ, i64_w, i32_w]
      rfl
    refine take_ (i := 5) (N := some 52) (v := ?_) (a' := ?_) #[true, true, true, true, true, true, true, true, true, false, false, false, false, false] rfl rfl (by kernel_rfl) (fun _ _ _ h => h) (Or.inl ⟨by rfl, ?_⟩) hHeld ?_ ?_
    rotate_left
    · intro w' s0
      go_simp
      with_reducible rfl
    rotate_left
    · simp only [Act.put, List.setIfInBounds_toArray, List.set_cons_zero, List.set_cons_succ, i64_w, i32_w]
      rfl
    refine one_ (i := 9) (N := some 56) #[true, true, true, true, true, true, true, true, true, true, false, false, false, false] rfl rfl (by kernel_rfl) (by decide) (fun K hK => ?_)
    refine goes_ Try.func53 (by kernel_rfl) rfl #[.slice none 0 0, .slice (some ⟨g2, 5, none⟩) k (c - 5)] (by rfl) rfl rfl (by simp only [List.map_toArray, List.map_cons, List.map_nil]; rfl) ?_
    with_reducible refine (encA_c g2 c k true A B _ HC1'.out HKC.out HK.out hokA HAL.out).mono ?_
    rintro e w2 ⟨A1, m1, c1, rfl, hv, hb2⟩
    refine ⟨_, rfl, ?_⟩
    have hz2 := hp_below HZ1.out hb2
    have HZ2 := Aside0.mk hz2
    have HC2 := Aside0.mk (Kd.C_below HC1'.out hb2)
    have HB2 := Aside0.mk hb2
    have HV2 := Aside0.mk hv
    obtain ⟨x0, x1, x2, x3, k0, k1, k2, k3⟩ := blk4 hz2
    have hg2 := hp_lt hz2
    clear hz2 hb2 hv
    refine hK.out _ _ (x1) (fun hHeld => ?_)
    clear hK K
    refine norm_ (a' := ?_) ?_ ?_
    rotate_left
    · show Act.put _ (some 56) _ = _
      simp only [Act.put, List.setIfInBounds_toArray, List.set_cons_zero, List.set_cons_succ, i64_w, i32_w]
      rfl
    refine pure_ (i := 10) (N := some 57) (v := ?_) (a' := ?_) #[true, true, true, true, true, true, true, true, true, true, true, false, false, false] rfl rfl (by kernel_rfl) (fun _ _ _ h => h) (Or.inl ⟨by rfl, ?_⟩) ?_ ?_
    rotate_left
    · intro w'
      go_simp
      with_reducible rfl
    rotate_left
    · simp only [Act.put, List.setIfInBounds_toArray, List.set_cons_zero, List.set_cons_succ, i64_w, i32_w]
      rfl
    refine pure_ (i := 11) (N := some 58) (v := ?_) (a' := ?_) #[true, true, true, true, true, true, true, true, true, true, true, true, false, false] rfl rfl (by kernel_rfl) (fun _ _ _ h => h) (Or.inl ⟨by rfl, ?_⟩) ?_ ?_
    rotate_left
    · intro w'
      go_simp
      with_reducible rfl
    rotate_left
    · simp only [Act.put, List.setIfInBounds_toArray, List.set_cons_zero, List.set_cons_succ, i64_w, i32_w]
      rfl
    refine pure_ (i := 12) (N := some 59) (v := ?_) (a' := ?_) #[true, true, true, true, true, true, true, true, true, true, true, true, true, false] rfl rfl (by kernel_rfl) (fun _ _ _ h => h) (Or.inl ⟨by rfl, ?_⟩) ?_ ?_
    rotate_left
    · intro w'
      go_simp
      with_reducible rfl
    rotate_left
    · simp only [Act.put, List.setIfInBounds_toArray, List.set_cons_zero, List.set_cons_succ, i64_w, i32_w]
      rfl
    refine last_ (i := 13) (N := none) #[true, true, true, true, true, true, true, true, true, true, true, true, true, true] rfl rfl (by kernel_rfl) (by decide) (fun K hK => ?_)
    refine skip_ (w1 := ?_) (by rfl) rfl ?_ ?_
    rotate_left
    · go_simp
      rfl
    refine hK.out _ _ ?_
    clear hK K
    refine done_ (by kernel_rfl) ?_
    have HZ3 : Aside0 (hp (w2.setCell ⟨g, 1, none⟩ (.slice A1 m1 c1)).drew g = some (.cells #[.bool true, .slice A1 m1 c1, .bool false, .slice none 0 0] 61 (0, 0))) := ⟨by rw [hp_drew, hp_here _ _ _ _ _ rfl, HZ2.out]; rfl⟩
    have HC3 := Aside0.mk (Kd.C_below (C_set HC2.out x1 (by simp) (.slice A1 m1 c1)) (below_drew (Below.refl _ _)))
    have HV3 := Aside0.mk ((HV2.out.set x1 (by simp) (.slice A1 m1 c1)).below (below_drew (Below.refl _ _)))
    have HB3 : Aside0 (∀ w0 : World, Below w0.heap.size w0 w → w0.heap.size ≤ g → Below w0.heap.size w0 (w2.setCell ⟨g, 1, none⟩ (.slice A1 m1 c1)).drew) := ⟨fun w0 h0 h1 => below_drew ((below_step (below_drew (HB1.out w0 h0 h1)) HB2.out).setCell (p := ⟨g, 1, none⟩) h1 _)⟩
    clear HZ1 HZ2 HC1 HC1' HC2 HV2 HB1 HB2 y0 y1 y2 y3 e0 e1 e2 e3
    go_wp2_with (fail)
    refine start_ (n := 14) (S := fun w' => w'.cell? ⟨g, 3, none⟩ = some (.slice none 0 0)) (ds := [13]) #[false, false, false, false, false, false, false, false, false, false, false, false, false, false] (by kernel_rfl) rfl rfl ((by go_simp)) (fun hHeld => ?_)
    refine pure_ (i := 0) (N := some 60) (v := ?_) (a' := ?_) #[true, false, false, false, false, false, false, false, false, false, false, false, false, false] rfl rfl (by kernel_rfl) (fun _ _ _ h => h) (Or.inl ⟨by rfl, ?_⟩) ?_ ?_
    rotate_left
    · intro w'
      go_simp
      with_reducible rfl
    rotate_left
    · simp only [Act.put, List.setIfInBounds_toArray, List.set_cons_zero, List.set_cons_succ, i64_w, i32_w]
      rfl
    refine pure_ (i := 1) (N := some 61) (v := ?_) (a' := ?_) #[true, true, false, false, false, false, false, false, false, false, false, false, false, false] rfl rfl (by kernel_rfl) (fun _ _ _ h => h) (Or.inl ⟨by rfl, ?_⟩) ?_ ?_
    rotate_left
    · intro w'
      go_simp
      with_reducible rfl
    rotate_left
    · simp only [Act.put, List.setIfInBounds_toArray, List.set_cons_zero, List.set_cons_succ, i64_w, i32_w]
      rfl
    refine pure_ (i := 2) (N := some 62) (v := ?_) (a' := ?_) #[true, true, true, false, false, false, false, false, false, false, false, false, false, false] rfl rfl (by kernel_rfl) (fun _ _ _ h => h) (Or.inl ⟨by rfl, ?_⟩) ?_ ?_
    rotate_left
    · intro w'
      go_simp
      with_reducible rfl
    rotate_left
    · simp only [Act.put, List.setIfInBounds_toArray, List.set_cons_zero, List.set_cons_succ, i64_w, i32_w]
      rfl
    refine pure_ (i := 3) (N := some 63) (v := ?_) (a' := ?_) #[true, true, true, true, false, false, false, false, false, false, false, false, false, false] rfl rfl (by kernel_rfl) (fun _ _ _ h => h) (Or.inl ⟨by rfl, ?_⟩) ?_ ?_
    rotate_left
    · intro w'
      go_simp
      with_reducible rfl
    rotate_left
    · simp only [Act.put, List.setIfInBounds_toArray, List.set_cons_zero, List.set_cons_succ, i64_w, i32_w]
      rfl
    refine pure_ (i := 4) (N := some 64) (v := ?_) (a' := ?_) #[true, true, true, true, true, false, false, false, false, false, false, false, false, false] rfl rfl (by kernel_rfl) (fun _ _ _ h => h) (Or.inl ⟨by rfl, ?_⟩) ?_ ?_
    rotate_left
    · intro w'
      go_simp
      with_reducible rfl
    rotate_left
    · simp only [Act.put, List.setIfInBounds_toArray, List.set_cons_zero, List.set_cons_succ, i64_w, i32_w]
      rfl
    refine pure_ (i := 6) (N := some 66) (v := ?_) (a' := ?_) #[true, true, true, true, true, false, true, false, false, false, false, false, false, false] rfl rfl (by kernel_rfl) (fun _ _ _ h => h) (Or.inl ⟨by rfl, ?_⟩) ?_ ?_
    rotate_left
    · intro w'
      go_simp
      with_reducible rfl
    rotate_left
    · simp only [Act.put, List.setIfInBounds_toArray, List.set_cons_zero, List.set_cons_succ, i64_w, i32_w]
      rfl
    refine pure_ (i := 7) (N := some 67) (v := ?_) (a' := ?_) #[true, true, true, true, true, false, true, true, false, false, false, false, false, false] rfl rfl (by kernel_rfl) (fun _ _ _ h => h) (Or.inl ⟨by rfl, ?_⟩) ?_ ?_
    rotate_left
    · intro w'
      go_simp
      with_reducible rfl
    rotate_left
    · simp only [Act.put, List.setIfInBounds_toArray, List.set_cons_zero, List.set_cons_succ, i64_w, i32_w]
      rfl
    refine pure_ (i := 8) (N := some 68) (v := ?_) (a' := ?_) #[true, true, true, true, true, false, true, true, true, false, false, false, false, false] rfl rfl (by kernel_rfl) (fun _ _ _ h => h) (Or.inl ⟨by rfl, ?_⟩) ?_ ?_
    rotate_left
    · intro w'
      go_simp
      with_reducible rfl
    rotate_left
    · simp only [Act.put, List.setIfInBounds_toArray, List.set_cons_zero, List.set_cons_succ, i64_w, i32_w]
      rfl
    refine take_ (i := 5) (N := some 65) (v := ?_) (a' := ?_) #[true, true, true, true, true, true, true, true, true, false, false, false, false, false] rfl rfl (by kernel_rfl) (fun _ _ _ h => h) (Or.inl ⟨by rfl, ?_⟩) hHeld ?_ ?_
    rotate_left
    · intro w' s0
      go_simp
      with_reducible rfl
    rotate_left
    · simp only [Act.put, List.setIfInBounds_toArray, List.set_cons_zero, List.set_cons_succ, i64_w, i32_w]
      rfl
    refine one_ (i := 9) (N := some 69) #[true, true, true, true, true, true, true, true, true, true, false, false, false, false] rfl rfl (by kernel_rfl) (by decide) (fun K hK => ?_)
    refine goes_ Try.func53 (by kernel_rfl) rfl #[.slice none 0 0, .slice (some ⟨g2, i, none⟩) (l - i) (c - i)] (by rfl) rfl rfl (by simp only [List.map_toArray, List.map_cons, List.map_nil]; rfl) ?_
    with_reducible refine (encB_c g2 c i l true A B _ HC3.out hlc2 (by rw [HI.out, HK.out]) HLL.out hokB HBL.out).mono ?_
    rintro e w4 ⟨A2, m2, c2, rfl, hv, hb2⟩
    refine ⟨_, rfl, ?_⟩
    have hz2 := hp_below HZ3.out hb2
    have HZ4 := Aside0.mk hz2
    have HB4 := Aside0.mk hb2
    have HV4 := Aside0.mk hv
    have HW4 := Aside0.mk (HV3.out.below hb2)
    obtain ⟨r0, r1, r2, r3, q0, q1, q2, q3⟩ := blk4 hz2
    have hg4 := hp_lt hz2
    clear hz2 hb2 hv
    refine hK.out _ _ (r3) (fun hHeld => ?_)
    clear hK K
    refine norm_ (a' := ?_) ?_ ?_
    rotate_left
    · show Act.put _ (some 69) _ = _
      simp only [Act.put, List.setIfInBounds_toArray, List.set_cons_zero, List.set_cons_succ, i64_w, i32_w]
      rfl
    refine pure_ (i := 10) (N := some 70) (v := ?_) (a' := ?_) #[true, true, true, true, true, true, true, true, true, true, true, false, false, false] rfl rfl (by kernel_rfl) (fun _ _ _ h => h) (Or.inl ⟨by rfl, ?_⟩) ?_ ?_
    rotate_left
    · intro w'
      go_simp
      with_reducible rfl
    rotate_left
    · simp only [Act.put, List.setIfInBounds_toArray, List.set_cons_zero, List.set_cons_succ, i64_w, i32_w]
      rfl
    refine pure_ (i := 11) (N := some 71) (v := ?_) (a' := ?_) #[true, true, true, true, true, true, true, true, true, true, true, true, false, false] rfl rfl (by kernel_rfl) (fun _ _ _ h => h) (Or.inl ⟨by rfl, ?_⟩) ?_ ?_
    rotate_left
    · intro w'
      go_simp
      with_reducible rfl
    rotate_left
    · simp only [Act.put, List.setIfInBounds_toArray, List.set_cons_zero, List.set_cons_succ, i64_w, i32_w]
      rfl
    refine pure_ (i := 12) (N := some 72) (v := ?_) (a' := ?_) #[true, true, true, true, true, true, true, true, true, true, true, true, true, false] rfl rfl (by kernel_rfl) (fun _ _ _ h => h) (Or.inl ⟨by rfl, ?_⟩) ?_ ?_
    rotate_left
    · intro w'
      go_simp
      with_reducible rfl
    rotate_left
    · simp only [Act.put, List.setIfInBounds_toArray, List.set_cons_zero, List.set_cons_succ, i64_w, i32_w]
      rfl
    refine last_ (i := 13) (N := none) #[true, true, true, true, true, true, true, true, true, true, true, true, true, true] rfl rfl (by kernel_rfl) (by decide) (fun K hK => ?_)
    refine skip_ (w1 := ?_) (by rfl) rfl ?_ ?_
    rotate_left
    · go_simp
      rfl
    refine hK.out _ _ ?_
    clear hK K
    refine done_ (by kernel_rfl) ?_
    have HZ5 : Aside0 (hp (w4.setCell ⟨g, 3, none⟩ (.slice A2 m2 c2)) g = some (.cells #[.bool true, .slice A1 m1 c1, .bool false, .slice A2 m2 c2] 61 (0, 0))) := ⟨by rw [hp_here _ _ _ _ _ rfl, HZ4.out]; rfl⟩
    have HV5 := Aside0.mk (HV4.out.set r3 (by simp) (.slice A2 m2 c2))
    have HW5 := Aside0.mk (HW4.out.set r3 (by simp) (.slice A2 m2 c2))
    go_wp2_with (fail)
    go_ret
    exact ⟨rfl, ⟨.slice A1 m1 c1, .slice A2 m2 c2, false, HZ5.out, by rw [← hn]; exact HW5.out, by rw [← hd]; exact HV5.out⟩, fun w0 h0 h1 => (below_step (HB3.out w0 h0 h1) HB4.out).setCell (p := ⟨g, 3, none⟩) h1 _⟩
end Go.Proofs.Ytapofoipfdjfhaa.Sp
end

/-! ## RatGob -/
section
namespace Go.Proofs.Ytapofoipfdjfhaa.Sp
open Go.RowKit Go.Proofs.YtapofoipfdjfhaaW.PrintWords Go.Proofs.YtapofoipfdjfhaaW.PrintLast Go.Proofs.YtapofoipfdjfhaaW.PrintMore Go.Proofs.Ytapofoipfdjfhaa.Dig
set_option linter.unusedVariables false
set_option linter.unusedSimpArgs false
theorem R_empty {w : World} {g base e : Nat} (k : IntKind) (h : hp w g = some (.cells #[] e (0, 0))) (hb : base ≤ g) : Kd.R (Kd.int k) e w base (fun k => base ≤ k) (.slice (some ⟨g, 0, none⟩) 0 0) [] :=
  ⟨fun k hk => by simp [Value.ownBlock] at hk; omega, [], ⟨rfl, Or.inr ⟨g, 0, #[], rfl, hb, h, Nat.le_refl _, by decide, rfl, rfl⟩⟩, Reps.none _ _⟩
set_option maxHeartbeats 1600000 in
set_option maxRecDepth 100000 in
theorem ratGob_c (neg : Bool) (A A2 : Option Addr) (m c m2 c2 : Nat) (l l2 : List Int) (w : World) (h : Ws w (.slice A m c) l) (h2 : Ws w (.slice A2 m2 c2) l2) (hl : l.length ≤ 20000) (hl2 : l2.length ≤ 20000) :
    Calls Try.prog 17 #[.agg #[.bool neg, .slice A m c, .slice A2 m2 c2]] w fun e w' => ∃ ad c D E, e = .returned (.tuple #[.slice (some ad) (enc (neg && decide (0 < ev BW l)) D E).length c, .bool true]) ∧ Kd.C (Kd.int .u8) w' (some ad) (enc (neg && decide (0 < ev BW l)) D E).length (enc (neg && decide (0 < ev BW l)) D E) ∧ (enc (neg && decide (0 < ev BW l)) D E).length ≤ c ∧ Cn 256 D.reverse ∧ Cn 256 E.reverse ∧ ev 256 D.reverse = ev BW l ∧ ev 256 E.reverse = ev BW l2 ∧ D.length ≤ 200000 ∧ E.length ≤ 200000 ∧ Below w.heap.size w w' := by
  have hb := below_alloc (Below.refl w.heap.size w) (.cells #[.bool neg, .slice A m c, .slice A2 m2 c2] 37)
  have HX := Aside0.mk (h.below hb)
  have HY := Aside0.mk (h2.below hb)
  have HB := Aside0.mk hb
  have HL := Aside0.mk (And.intro hl hl2)
  have HN := Aside0.mk (show ev BW l < Lim ∧ ev BW l2 < Lim by
    obtain ⟨_, _, _, _, _, q⟩ := h
    obtain ⟨_, _, _, _, _, q2⟩ := h2
    exact ⟨words_Lim q (by omega), words_Lim q2 (by omega)⟩)
  have hu := Try.underlying37
  obtain ⟨sg, hsg⟩ : ∃ sg, sg = (neg && decide (0 < ev BW l)) := ⟨_, rfl⟩
  have HSG := Aside0.mk hsg
  rw [← hsg]
  clear h h2 hl hl2 hb hsg
  go_enter Try.func17, Try.ntmps17
  go_wp2_with ((fail_if_success go_at_call 33); (fail_if_success go_at_call 34); go_in)
  refine (rat_c neg A A2 m c m2 c2 l l2 _ HX.out HY.out HL.out.1 HL.out.2).mono ?_
  rintro e w1 ⟨g, rfl, hg, hr, hb1⟩
  rw [← HSG.out] at hr
  have HR := Aside0.mk hr
  have HB1 := Aside0.mk (below_step HB.out hb1)
  clear hr hb1 hg
  go_wp2_with ((fail_if_success go_at_call 33); (fail_if_success go_at_call 34); go_in)
  refine (gobEncode_c g sg _ _ _ HR.out HN.out.1 HN.out.2).mono ?_
  rintro e w2 ⟨ad, cc, D, E, rfl, hC, hlc, k1, k2, k3, k4, k5, k6, hb2⟩
  obtain ⟨n, hn⟩ : ∃ n, n = (enc sg D E).length := ⟨_, rfl⟩
  have HF := Aside0.mk (And.intro hC (And.intro hlc (And.intro k1 (And.intro k2 (And.intro k3 (And.intro k4 (And.intro k5 k6)))))))
  have HB2 := Aside0.mk (below_step HB1.out hb2)
  have HNE := Aside0.mk hn
  rw [← hn]
  clear hC hlc k1 k2 k3 k4 k5 k6 hb2 hn
  go_wp2_with (fail)
  refine start_ (n := 5) (S := fun w' => True) (ds := []) #[false, false, false, false, false] (by kernel_rfl) rfl rfl trivial (fun hHeld => ?_)
  refine pure_ (i := 0) (N := some 12) (v := ?_) (a' := ?_) #[true, false, false, false, false] rfl rfl (by kernel_rfl) (fun _ _ _ h => h) (Or.inl ⟨by rfl, ?_⟩) ?_ ?_
  rotate_left
  · intro w'
    go_simp
    with_reducible rfl
  rotate_left
  · simp only [Act.put, List.setIfInBounds_toArray, List.set_cons_zero, List.set_cons_succ, i64_w, i32_w]
    rfl
  refine pure_ (i := 1) (N := some 13) (v := ?_) (a' := ?_) #[true, true, false, false, false] rfl rfl (by kernel_rfl) (fun _ _ _ h => h) (Or.inl ⟨by rfl, ?_⟩) ?_ ?_
  rotate_left
  · intro w'
    go_simp
    with_reducible rfl
  rotate_left
  · simp only [Act.put, List.setIfInBounds_toArray, List.set_cons_zero, List.set_cons_succ, i64_w, i32_w]
    rfl
  refine pure_ (i := 2) (N := some 14) (v := ?_) (a' := ?_) #[true, true, true, false, false] rfl rfl (by kernel_rfl) (fun _ _ _ h => h) (Or.inl ⟨by rfl, ?_⟩) ?_ ?_
  rotate_left
  · intro w'
    go_simp
    with_reducible rfl
  rotate_left
  · simp only [Act.put, List.setIfInBounds_toArray, List.set_cons_zero, List.set_cons_succ, i64_w, i32_w]
    rfl
  refine pure_ (i := 3) (N := some 2) (v := ?_) (a' := ?_) #[true, true, true, true, false] rfl rfl (by kernel_rfl) (fun _ _ _ h => h) (Or.inl ⟨by rfl, ?_⟩) ?_ ?_
  rotate_left
  · intro w'
    go_simp
    with_reducible rfl
  rotate_left
  · simp only [Act.put, List.setIfInBounds_toArray, List.set_cons_zero, List.set_cons_succ, i64_w, i32_w]
    rfl
  refine pure_ (i := 4) (N := some 3) (v := ?_) (a' := ?_) #[true, true, true, true, true] rfl rfl (by kernel_rfl) (fun _ _ _ h => h) (Or.inl ⟨by rfl, ?_⟩) ?_ ?_
  rotate_left
  · intro w'
    go_simp
    with_reducible rfl
  rotate_left
  · simp only [Act.put, List.setIfInBounds_toArray, List.set_cons_zero, List.set_cons_succ, i64_w, i32_w]
    rfl
  refine done_ (by kernel_rfl) ?_
  go_wp2_with (fail)
  refine bodyPost_ret (v := .tuple #[.slice (some ad) n cc, .bool true]) (by simp [results, Try.results17, go_sem]) rfl ?_
  exact ⟨ad, cc, D, E, by rw [HNE.out], Kd.C_below HF.out.1 (below_drew (Below.refl _ _)), HF.out.2.1, HF.out.2.2.1, HF.out.2.2.2.1, HF.out.2.2.2.2.1, HF.out.2.2.2.2.2.1, HF.out.2.2.2.2.2.2.1, HF.out.2.2.2.2.2.2.2, below_drew HB2.out⟩
set_option maxHeartbeats 1600000 in
set_option maxRecDepth 100000 in
theorem ratGobBack_c (ad : Addr) (c l : Nat) (sg : Bool) (D E : List Int) (n d : Int) (w : World) (hC : Kd.C (Kd.int .u8) w (some ad) (enc sg D E).length (enc sg D E)) (hlc : (enc sg D E).length ≤ c) (hD : Cn 256 D.reverse) (hE : Cn 256 E.reverse) (hn : ev 256 D.reverse = n) (hd : ev 256 E.reverse = d) (hd0 : 0 < d) (hDl : D.length ≤ 200000) (hEl : E.length ≤ 200000) (hl : l = (enc sg D E).length) (hnL : n < Lim) (hdL : d < Lim) :
    Calls Try.prog 18 #[.slice (some ad) l c] w fun e w' => ∃ A m c A2 m2 c2, e = .returned (.tuple #[.agg #[.bool (sg && decide (0 < n)), .slice A m c, .slice A2 m2 c2], .bool true]) ∧ Wd w' (.slice A m c) n ∧ Wd w' (.slice A2 m2 c2) d ∧ Below w.heap.size w w' := by
  have hlen := enc_len sg D E
  obtain ⟨w0, hw0⟩ : ∃ w0, w0 = (((w.alloc (.cells #[.bool false, .slice none 0 0, .slice none 0 0] 37)).alloc (.cells #[.bool false, .slice none 0 0, .bool false, .slice none 0 0] 61)).alloc (.cells #[] 5)) := ⟨_, rfl⟩
  have hb : Below w.heap.size w w0 := by rw [hw0]; exact below_alloc (below_alloc (below_alloc (Below.refl _ _) _) _) _
  have HC := Aside0.mk (Kd.C_below hC hb)
  have HB := Aside0.mk hb
  have HBA : Aside0 (Below (w.alloc (.cells #[.bool false, .slice none 0 0, .slice none 0 0] 37)).heap.size (w.alloc (.cells #[.bool false, .slice none 0 0, .slice none 0 0] 37)) w0) := ⟨by rw [hw0]; exact below_alloc (below_alloc (Below.refl _ _) _) _⟩
  have HK0 : Aside0 (hp w0 w.heap.size = some (.cells #[.bool false, .slice none 0 0, .slice none 0 0] 37 (0, 0))) := ⟨by rw [hw0]; exact (by simp (disch := first | omega | (simp; omega) | (simp; done) | fail) [hp_new, hp_old, hp_here, hp_other, setObj_cells, hp_drew, hp_drewN])⟩
  have HK1 : Aside0 (hp w0 (w.heap.size + 1) = some (.cells #[.bool false, .slice none 0 0, .bool false, .slice none 0 0] 61 (0, 0))) := ⟨by rw [hw0]; exact (by simp (disch := first | omega | (simp; omega) | (simp; done) | fail) [hp_new, hp_old, hp_here, hp_other, setObj_cells, hp_drew, hp_drewN])⟩
  have HO : Aside0 (Kd.R (Kd.int .u8) 5 w0 (w.heap.size + 1 + 1) (fun k => w.heap.size + 1 + 1 ≤ k) (.slice (some ⟨w.heap.size + 1 + 1, 0, none⟩) 0 0) []) := ⟨R_empty .u8 (by rw [hw0]; exact hp_new _ _ _ (by simp)) (Nat.le_refl _)⟩
  have hsz : w0.heap.size = w.heap.size + 1 + 1 + 1 := by rw [hw0]; simp
  have HSZ := Aside0.mk hsz
  have HW0 := Aside0.mk hw0
  have HLL := Aside0.mk hl
  have HLC := Aside0.mk hlc
  have hlM : l ≤ 500000 := by omega
  clear hC hlc hb hw0 hlen hl
  go_enter Try.func18, Try.ntmps18
  go_wp2_with ((with_reducible refine gate_builtin (b := .append) (xs := #[.tmp 7, .tmp 8]) rfl ?_); at_builtin; rw [← HW0.out]; go_must (refine Kd.R_append_row (Value.int .u8) (0 : Int) (w0 := w0) (w.heap.size + 1 + 1) rfl (.tmp 7) (.tmp 8) 48 5 (.int .u8 0) 1 rfl Try.underlying48 infoU8 rfl (by decide) (.slice (some ⟨w.heap.size + 1 + 1, 0, none⟩) 0 0) [] (enc sg D E) (some ad) l c (fun k => w.heap.size + 1 + 1 ≤ k) rfl rfl (fun k hk => by omega) HO.out (by rw [HLL.out]; exact HC.out) (Below.refl _ _) (by omega) (by simp; omega) ?_); intro v1 w1 ho hb hg hat)
  have ho : Kd.R (Kd.int .u8) 5 w1 (w.heap.size + 1 + 1) (fun k => w.heap.size + 1 + 1 ≤ k) v1 (enc sg D E) := ho
  have hk1 : hp w1 (w.heap.size + 1) = some (.cells #[.bool false, .slice none 0 0, .bool false, .slice none 0 0] 61 (0, 0)) := (hb.block _ (by omega)).trans HK1.out
  have hk0 : hp w1 w.heap.size = some (.cells #[.bool false, .slice none 0 0, .slice none 0 0] 37 (0, 0)) := (hb.block _ (by omega)).trans HK0.out
  have HB1 : Aside0 (Below w.heap.size w w1) := ⟨HB.out.trans (hb.mono (by omega))⟩
  have HBA1 : Aside0 (Below (w.alloc (.cells #[.bool false, .slice none 0 0, .slice none 0 0] 37)).heap.size (w.alloc (.cells #[.bool false, .slice none 0 0, .slice none 0 0] 37)) w1) := ⟨HBA.out.trans (hb.mono (by simp))⟩
  obtain ⟨inner, ho2⟩ := Kd.R_own ho
  have hne : (enc sg D E).length ≠ 0 := by rw [enc_len]; omega
  obtain ⟨g2, c2, e2, _, _⟩ := ho2.form (by omega)
  obtain ⟨A3, c3, e3, q3, r3⟩ := Kd.R_reads ho
  rw [e2] at e3
  injection e3 with e31 e32 e33
  subst e31 e33
  subst e2
  have hs1 := hp_lt hk1
  have hs0 := hp_lt hk0
  have HK0' := Aside0.mk hk0
  clear ho ho2 hb hg hat HC HO HW0 HSZ hsz HK0 HK1 HB
  refine (gobDecode_c (w.heap.size + 1) g2 c2 sg D E n d _ hk1 r3 q3 hD hE hn hd hd0 hDl hEl).mono ?_
  rintro e w2 ⟨rfl, hr, hfr⟩
  have HR := Aside0.mk hr
  have HB2 : Aside0 (Below w.heap.size w w2) := ⟨hfr w HB1.out (by omega)⟩
  have hk2 : hp w2 w.heap.size = some (.cells #[.bool false, .slice none 0 0, .slice none 0 0] 37 (0, 0)) := ((hfr _ HBA1.out (by simp)).block _ (by simp)).trans (hp_new _ _ _ rfl)
  have hs2 := hp_lt hk2
  have HK2 := Aside0.mk hk2
  clear hr hfr hk2 HB1 HBA1 hk1 hk0 r3
  go_wp2_with ((fail_if_success go_at_call 26); go_in)
  refine (fraction_c (w.heap.size + 1) sg n d _ HR.out hnL hdL hd0).mono ?_
  rintro e w2 ⟨A1, m1, cc1, A2, m2, cc2, rfl, hv1, hv2, hb2⟩
  have k0 := hp_below (show hp _ (w.heap.size) = some (.cells #[.bool false, .slice none 0 0, .slice none 0 0] 37 (0, 0)) from HK2.out) hb2
  have HB2 : Aside0 (Below w.heap.size w w2) := ⟨below_step HB2.out hb2⟩
  obtain ⟨d0, d1, d2, f0, f1, f2⟩ := blk3 k0
  obtain ⟨s, hs0⟩ : ∃ s, s = (sg && decide (0 < n)) := ⟨_, rfl⟩
  have HS := Aside0.mk hs0
  have hset : ∀ {u : Value} {z : Int}, Wd w2 u z → Wd (((w2.setCell ⟨w.heap.size, 0, none⟩ (.bool s)).setCell ⟨w.heap.size, 1, none⟩ (.slice A1 m1 cc1)).setCell ⟨w.heap.size, 2, none⟩ (.slice A2 m2 cc2)) u z := by
    intro u z hz
    refine Wd.set (Wd.set (Wd.set hz d0 (by simp) _) (u := .slice none 0 0) ?_ (by simp) _) (u := .slice none 0 0) ?_ (by simp) _
    · rw [World.cell?_setCell_other _ _ _ _ (by simp)]; exact d1
    · rw [World.cell?_setCell_other _ _ _ _ (by simp), World.cell?_setCell_other _ _ _ _ (by simp)]; exact d2
  have HV1 := Aside0.mk (hset hv1)
  have HV2 := Aside0.mk (hset hv2)
  have HB3 := Aside0.mk (((HB2.out.setCell (p := ⟨w.heap.size, 0, none⟩) (by simp) (.bool s)).setCell (p := ⟨w.heap.size, 1, none⟩) (by simp) (.slice A1 m1 cc1)).setCell (p := ⟨w.heap.size, 2, none⟩) (by simp) (.slice A2 m2 cc2))
  rw [← hs0]
  clear hset hv1 hv2 hb2 HB2 k0 hs0
  go_wp2_with (fail)
  refine bodyPost_ret (v := .tuple #[.agg #[.bool s, .slice A1 m1 cc1, .slice A2 m2 cc2], .bool true]) (by simp [results, Try.results18, go_sem, d0, d1, d2, f0, f1, f2]) rfl ?_
  exact ⟨_, _, _, _, _, _, by rw [HS.out], HV1.out, HV2.out, HB3.out⟩
set_option maxHeartbeats 1600000 in
set_option maxRecDepth 100000 in
theorem ratGobBack_cut (ad : Addr) (c l : Nat) (bs : List Int) (w : World) (hC : Kd.C (Kd.int .u8) w (some ad) bs.length bs) (hl : l = bs.length) (h1 : 1 ≤ l) (h4 : l ≤ 4) :
    Calls Try.prog 18 #[.slice (some ad) l c] w fun e w' => e = .returned (.tuple #[.agg #[.bool false, .slice none 0 0, .slice none 0 0], .bool false]) ∧ Below w.heap.size w w' := by
  obtain ⟨w0, hw0⟩ : ∃ w0, w0 = (((w.alloc (.cells #[.bool false, .slice none 0 0, .slice none 0 0] 37)).alloc (.cells #[.bool false, .slice none 0 0, .bool false, .slice none 0 0] 61)).alloc (.cells #[] 5)) := ⟨_, rfl⟩
  have hb : Below w.heap.size w w0 := by rw [hw0]; exact below_alloc (below_alloc (below_alloc (Below.refl _ _) _) _) _
  have HC := Aside0.mk (Kd.C_below hC hb)
  have HB := Aside0.mk hb
  have HK0 : Aside0 (hp w0 w.heap.size = some (.cells #[.bool false, .slice none 0 0, .slice none 0 0] 37 (0, 0))) := ⟨by rw [hw0]; exact (by simp (disch := first | omega | (simp; omega) | (simp; done) | fail) [hp_new, hp_old, hp_here, hp_other, setObj_cells, hp_drew, hp_drewN])⟩
  have HO : Aside0 (Kd.R (Kd.int .u8) 5 w0 (w.heap.size + 1 + 1) (fun k => w.heap.size + 1 + 1 ≤ k) (.slice (some ⟨w.heap.size + 1 + 1, 0, none⟩) 0 0) []) := ⟨R_empty .u8 (by rw [hw0]; exact hp_new _ _ _ (by simp)) (Nat.le_refl _)⟩
  have hsz : w0.heap.size = w.heap.size + 1 + 1 + 1 := by rw [hw0]; simp
  have HSZ := Aside0.mk hsz
  have HW0 := Aside0.mk hw0
  have HLL := Aside0.mk hl
  clear hC hb hw0
  go_enter Try.func18, Try.ntmps18
  go_wp2_with ((with_reducible refine gate_builtin (b := .append) (xs := #[.tmp 7, .tmp 8]) rfl ?_); at_builtin; rw [← HW0.out]; go_must (refine Kd.R_append_row (Value.int .u8) (0 : Int) (w0 := w0) (w.heap.size + 1 + 1) rfl (.tmp 7) (.tmp 8) 48 5 (.int .u8 0) 1 rfl Try.underlying48 infoU8 rfl (by decide) (.slice (some ⟨w.heap.size + 1 + 1, 0, none⟩) 0 0) [] bs (some ad) l c (fun k => w.heap.size + 1 + 1 ≤ k) rfl rfl (fun k hk => by omega) HO.out (by rw [HLL.out]; exact HC.out) (Below.refl _ _) (by omega) (by simp; omega) ?_); intro v1 w1 ho hb hg hat)
  have ho : Kd.R (Kd.int .u8) 5 w1 (w.heap.size + 1 + 1) (fun k => w.heap.size + 1 + 1 ≤ k) v1 bs := ho
  have hk0 : hp w1 w.heap.size = some (.cells #[.bool false, .slice none 0 0, .slice none 0 0] 37 (0, 0)) := (hb.block _ (by omega)).trans HK0.out
  have HB1 : Aside0 (Below w.heap.size w w1) := ⟨HB.out.trans (hb.mono (by omega))⟩
  obtain ⟨A3, c3, e3, q3, r3⟩ := Kd.R_reads ho
  rw [← hl] at e3
  subst e3
  have hs0 := hp_lt hk0
  have HK0' := Aside0.mk hk0
  obtain ⟨y0, y1, y2, e0, e1, e2⟩ := blk3 hk0
  clear ho hb hg hat HC HO HW0 HSZ hsz HK0 HB r3 hk0 HLL hl
  go_wp2_with (go_in)
  refine bodyPost_ret (v := .tuple #[.agg #[.bool false, .slice none 0 0, .slice none 0 0], .bool false]) (by simp [results, Try.results18, go_sem, World.cell?_alloc_past _ _ _ (show w.heap.size < (((w1.setCell ⟨w.heap.size, 0, none⟩ (.bool false)).setCell ⟨w.heap.size, 1, none⟩ (.slice none 0 0)).setCell ⟨w.heap.size, 2, none⟩ (.slice none 0 0)).heap.size by simp; exact hs0), y0, y1, y2, e0, e1, e2]) rfl ?_
  have HB := HB1
  exact ⟨rfl, (by repeat (first | (with_reducible first | exact HB.out | apply below_alloc | apply pw_below_drewN | apply below_drew1 | refine below_set ?_ (by simp)) | exact HB.out))⟩
end Go.Proofs.Ytapofoipfdjfhaa.Sp
end

/-! ## OfFrac -/
section
namespace Go.Proofs.Ytapofoipfdjfhaa.Sp
open Go.RowKit Go.Proofs.YtapofoipfdjfhaaW.PrintWords Go.Proofs.YtapofoipfdjfhaaW.PrintLast Go.Proofs.YtapofoipfdjfhaaW.PrintMore Go.Proofs.Ytapofoipfdjfhaa.Dig
set_option linter.unusedVariables false
set_option linter.unusedSimpArgs false
/-- What a Fraction must be to count as one. -/
def FrOk (b : Bool) (l l2 : List Int) : Prop := (b = (b && decide (0 < ev BW l)) ∧ Cn BW l ∧ ev BW l = ev BW l) ∧ Cn BW l2 ∧ ev BW l2 = ev BW l2
set_option maxHeartbeats 3200000 in
set_option maxRecDepth 100000 in
theorem ofFraction_c (b : Bool) (A A2 : Option Addr) (c c2 : Nat) (l l2 : List Int) (w : World) (h : Ws w (.slice A l.length c) l) (h2 : Ws w (.slice A2 l2.length c2) l2) (hl : l.length ≤ 10000) (hl2 : l2.length ≤ 10000) :
    Calls Try.prog 32 #[.agg #[.bool b, .slice A l.length c, .slice A2 l2.length c2]] w fun e w' => ∃ r A' m' c' A2' m2' c2', e = .returned (.tuple #[.agg #[.bool b, .slice A' m' c', .slice A2' m2' c2'], .bool r]) ∧ (r = true → FrOk b l l2) ∧ Dg w' (.slice A' m' c') (ev BW l) ∧ Dg w' (.slice A2' m2' c2') (ev BW l2) ∧ Below w.heap.size w w' := by
  have hb : Below w.heap.size w (((w.alloc (.cells #[.bool b, .slice A l.length c, .slice A2 l2.length c2] 37 (0, 0))).alloc (.cells #[.bool false, .slice none 0 0, .slice none 0 0] 45 (0, 0))).drew) := below_drew (below_alloc (below_alloc (Below.refl _ _) _) _)
  have HX := Aside0.mk (h.below hb)
  have HY := Aside0.mk (h2.below hb)
  have HB := Aside0.mk hb
  have HL := Aside0.mk (And.intro hl hl2)
  have HN := Aside0.mk (show ev BW l < Lim ∧ ev BW l2 < Lim by
    obtain ⟨_, _, _, _, _, q⟩ := h
    obtain ⟨_, _, _, _, _, q2⟩ := h2
    exact ⟨words_Lim q (by omega), words_Lim q2 (by omega)⟩)
  have hu := Try.underlying37
  have hu2 := Try.underlying45
  have hu3 := Try.underlying24
  have K0 : Aside0 (hp (((w.alloc (.cells #[.bool b, .slice A l.length c, .slice A2 l2.length c2] 37 (0, 0))).alloc (.cells #[.bool false, .slice none 0 0, .slice none 0 0] 45 (0, 0))).drew) w.heap.size = some (.cells #[.bool b, .slice A l.length c, .slice A2 l2.length c2] 37 (0, 0))) := ⟨(by simp (disch := first | omega | (simp; omega) | (simp; done) | fail) [hp_new, hp_old, hp_here, hp_other, setObj_cells, hp_drew, hp_drewN])⟩
  have K1 : Aside0 (hp (((w.alloc (.cells #[.bool b, .slice A l.length c, .slice A2 l2.length c2] 37 (0, 0))).alloc (.cells #[.bool false, .slice none 0 0, .slice none 0 0] 45 (0, 0))).drew) (w.heap.size + 1) = some (.cells #[.bool false, .slice none 0 0, .slice none 0 0] 45 (0, 0))) := ⟨(by simp (disch := first | omega | (simp; omega) | (simp; done) | fail) [hp_new, hp_old, hp_here, hp_other, setObj_cells, hp_drew, hp_drewN])⟩
  have HZ := Aside0.mk (show w.heap.size + 1 < (((w.alloc (.cells #[.bool b, .slice A l.length c, .slice A2 l2.length c2] 37 (0, 0))).alloc (.cells #[.bool false, .slice none 0 0, .slice none 0 0] 45 (0, 0))).drew).heap.size by simp)
  clear h h2 hb hl hl2
  go_enter Try.func32, Try.ntmps32
  go_wp2_with (fail)
  refine start_ (n := 13) (S := fun w' => w'.cell? ⟨w.heap.size, 0, none⟩ = some (.bool b) ∧ w'.cell? ⟨w.heap.size, 1, none⟩ = some (.slice A l.length c) ∧ w'.cell? ⟨w.heap.size, 2, none⟩ = some (.slice A2 l2.length c2)) (ds := [12]) #[false, false, false, false, false, false, false, false, false, false, false, false, false] (by kernel_rfl) rfl rfl ⟨(by go_simp), (by go_simp), (by go_simp)⟩ (fun hHeld => ?_)
  refine pure_ (i := 0) (N := some 5) (v := ?_) (a' := ?_) #[true, false, false, false, false, false, false, false, false, false, false, false, false] rfl rfl (by kernel_rfl) (fun _ _ _ h => h) (Or.inl ⟨by rfl, ?_⟩) ?_ ?_
  rotate_left
  · intro w'
    go_simp
    with_reducible rfl
  rotate_left
  · simp only [Act.put, List.setIfInBounds_toArray, List.set_cons_zero, List.set_cons_succ, i64_w, i32_w]
    rfl
  refine pure_ (i := 1) (N := some 6) (v := ?_) (a' := ?_) #[true, true, false, false, false, false, false, false, false, false, false, false, false] rfl rfl (by kernel_rfl) (fun _ _ _ h => h) (Or.inl ⟨by rfl, ?_⟩) ?_ ?_
  rotate_left
  · intro w'
    go_simp
    with_reducible rfl
  rotate_left
  · simp only [Act.put, List.setIfInBounds_toArray, List.set_cons_zero, List.set_cons_succ, i64_w, i32_w]
    rfl
  refine pure_ (i := 3) (N := some 8) (v := ?_) (a' := ?_) #[true, true, false, true, false, false, false, false, false, false, false, false, false] rfl rfl (by kernel_rfl) (fun _ _ _ h => h) (Or.inl ⟨by rfl, ?_⟩) ?_ ?_
  rotate_left
  · intro w'
    go_simp
    with_reducible rfl
  rotate_left
  · simp only [Act.put, List.setIfInBounds_toArray, List.set_cons_zero, List.set_cons_succ, i64_w, i32_w]
    rfl
  refine pure_ (i := 4) (N := some 9) (v := ?_) (a' := ?_) #[true, true, false, true, true, false, false, false, false, false, false, false, false] rfl rfl (by kernel_rfl) (fun _ _ _ h => h) (Or.inl ⟨by rfl, ?_⟩) ?_ ?_
  rotate_left
  · intro w'
    go_simp
    with_reducible rfl
  rotate_left
  · simp only [Act.put, List.setIfInBounds_toArray, List.set_cons_zero, List.set_cons_succ, i64_w, i32_w]
    rfl
  refine pure_ (i := 7) (N := some 12) (v := ?_) (a' := ?_) #[true, true, false, true, true, false, false, true, false, false, false, false, false] rfl rfl (by kernel_rfl) (fun _ _ _ h => h) (Or.inl ⟨by rfl, ?_⟩) ?_ ?_
  rotate_left
  · intro w'
    go_simp
    with_reducible rfl
  rotate_left
  · simp only [Act.put, List.setIfInBounds_toArray, List.set_cons_zero, List.set_cons_succ, i64_w, i32_w]
    rfl
  refine take_ (i := 2) (N := some 7) (v := ?_) (a' := ?_) #[true, true, true, true, true, false, false, true, false, false, false, false, false] rfl rfl (by kernel_rfl) (fun _ _ _ h => h) (Or.inl ⟨by rfl, ?_⟩) hHeld ?_ ?_
  rotate_left
  · rintro w' ⟨s0, s1, s2⟩
    go_simp
    with_reducible rfl
  rotate_left
  · simp only [Act.put, List.setIfInBounds_toArray, List.set_cons_zero, List.set_cons_succ, i64_w, i32_w]
    rfl
  refine take_ (i := 5) (N := some 10) (v := ?_) (a' := ?_) #[true, true, true, true, true, true, false, true, false, false, false, false, false] rfl rfl (by kernel_rfl) (fun _ _ _ h => h) (Or.inl ⟨by rfl, ?_⟩) hHeld ?_ ?_
  rotate_left
  · rintro w' ⟨s0, s1, s2⟩
    go_simp
    with_reducible rfl
  rotate_left
  · simp only [Act.put, List.setIfInBounds_toArray, List.set_cons_zero, List.set_cons_succ, i64_w, i32_w]
    rfl
  refine take_ (i := 8) (N := some 13) (v := ?_) (a' := ?_) #[true, true, true, true, true, true, false, true, true, false, false, false, false] rfl rfl (by kernel_rfl) (fun _ _ _ h => h) (Or.inl ⟨by rfl, ?_⟩) hHeld ?_ ?_
  rotate_left
  · rintro w' ⟨s0, s1, s2⟩
    go_simp
    with_reducible rfl
  rotate_left
  · simp only [Act.put, List.setIfInBounds_toArray, List.set_cons_zero, List.set_cons_succ, i64_w, i32_w]
    rfl
  refine join_ (σ := Option Addr × Nat × Nat × Option Addr × Nat × Nat × Nat) 1 #[true, true, true, true, true, true, true, true, true, true, true, true, false] (fun s => [(11, .slice s.1 s.2.1 s.2.2.1), (14, .slice s.2.2.2.1 s.2.2.2.2.1 s.2.2.2.2.2.1), (4, .pointer (some ⟨s.2.2.2.2.2.2, 0, none⟩)), (15, .agg #[.bool b, .slice s.1 s.2.1 s.2.2.1, .slice s.2.2.2.1 s.2.2.2.2.1 s.2.2.2.2.2.1])]) (fun s w' => Dg w' (.slice s.1 s.2.1 s.2.2.1) (ev BW l) ∧ Dg w' (.slice s.2.2.2.1 s.2.2.2.2.1 s.2.2.2.2.2.1) (ev BW l2) ∧ hp w' s.2.2.2.2.2.2 = some (.cells #[.bool false, .slice none 0 0, .slice none 0 0] 45 (0, 0)) ∧ Ws w' (.slice A l.length c) l ∧ Ws w' (.slice A2 l2.length c2) l2 ∧ Below w.heap.size w w' ∧ hp w' w.heap.size = some (.cells #[.bool b, .slice A l.length c, .slice A2 l2.length c2] 37 (0, 0)) ∧ hp w' (w.heap.size + 1) = some (.cells #[.bool false, .slice none 0 0, .slice none 0 0] 45 (0, 0)) ∧ w.heap.size + 1 < s.2.2.2.2.2.2 ∧ w'.cell? ⟨w.heap.size, 0, none⟩ = some (.bool b) ∧ w'.cell? ⟨w.heap.size, 1, none⟩ = some (.slice A l.length c) ∧ w'.cell? ⟨w.heap.size, 2, none⟩ = some (.slice A2 l2.length c2)) ?_ ?_
  rotate_left
  · intro hCont
    refine two_ (i := 6) (j := 11) (Ni := some 11) (Nj := some 4) #[true, true, true, true, true, true, true, true, true, false, false, false, false] #[true, true, true, true, true, true, false, true, true, false, false, true, false] rfl rfl rfl rfl (by kernel_rfl) (by decide) (by decide) (fun K hK => ?_) (fun K hK => ?_)
    · skip
      refine goes_ Try.func9 (by kernel_rfl) rfl #[.slice A l.length c] (by rfl) rfl rfl (by simp only [List.map_toArray, List.map_cons, List.map_nil]; rfl) ?_
      with_reducible refine (of_s _ l _ HX.out (by have := HL.out.1; omega)).mono ?_
      rintro e w3 ⟨A1, m1, c1, rfl, hx, hb1⟩
      refine ⟨_, rfl, ?_⟩
      have HP := Aside0.mk hx
      clear hx
      replace HX := Aside0.mk (HX.out.below hb1)
      replace HY := Aside0.mk (HY.out.below hb1)
      replace HB := Aside0.mk (below_step HB.out hb1)
      replace K0 := Aside0.mk (hp_below K0.out hb1)
      replace K1 := Aside0.mk (hp_below K1.out hb1)
      replace HZ := Aside0.mk (Nat.lt_of_lt_of_le HZ.out hb1.size)
      have q0 := (hb1.cell (p := ⟨w.heap.size, 0, none⟩) (World.block_lt_of_cell? _ _ hHeld.1)).trans hHeld.1
      have q1 := (hb1.cell (p := ⟨w.heap.size, 1, none⟩) (World.block_lt_of_cell? _ _ hHeld.2.1)).trans hHeld.2.1
      have q2 := (hb1.cell (p := ⟨w.heap.size, 2, none⟩) (World.block_lt_of_cell? _ _ hHeld.2.2)).trans hHeld.2.2
      clear hb1
      refine hK.out _ _ ⟨q0, q1, q2⟩ (fun hHeld => ?_)
      clear hK K
      refine norm_ (a' := ?_) ?_ ?_
      rotate_left
      · show Act.put _ (some 11) _ = _
        simp only [Act.put, List.setIfInBounds_toArray, List.set_cons_zero, List.set_cons_succ, i64_w, i32_w]
        rfl
      refine two_ (i := 9) (j := 11) (Ni := some 14) (Nj := some 4) #[true, true, true, true, true, true, true, true, true, true, false, false, false] #[true, true, true, true, true, true, true, true, true, false, false, true, false] rfl rfl rfl rfl (by kernel_rfl) (by decide) (by decide) (fun K hK => ?_) (fun K hK => ?_)
      · skip
        refine goes_ Try.func9 (by kernel_rfl) rfl #[.slice A2 l2.length c2] (by rfl) rfl rfl (by simp only [List.map_toArray, List.map_cons, List.map_nil]; rfl) ?_
        with_reducible refine (of_s _ l2 _ HY.out (by have := HL.out.2; omega)).mono ?_
        rintro e w4 ⟨A3, m3, c3, rfl, hx, hb1⟩
        refine ⟨_, rfl, ?_⟩
        have HQ := Aside0.mk hx
        clear hx
        replace HX := Aside0.mk (HX.out.below hb1)
        replace HY := Aside0.mk (HY.out.below hb1)
        replace HP := Aside0.mk (HP.out.below hb1)
        replace HB := Aside0.mk (below_step HB.out hb1)
        replace K0 := Aside0.mk (hp_below K0.out hb1)
        replace K1 := Aside0.mk (hp_below K1.out hb1)
        replace HZ := Aside0.mk (Nat.lt_of_lt_of_le HZ.out hb1.size)
        have q0 := (hb1.cell (p := ⟨w.heap.size, 0, none⟩) (World.block_lt_of_cell? _ _ hHeld.1)).trans hHeld.1
        have q1 := (hb1.cell (p := ⟨w.heap.size, 1, none⟩) (World.block_lt_of_cell? _ _ hHeld.2.1)).trans hHeld.2.1
        have q2 := (hb1.cell (p := ⟨w.heap.size, 2, none⟩) (World.block_lt_of_cell? _ _ hHeld.2.2)).trans hHeld.2.2
        clear hb1
        refine hK.out _ _ ⟨q0, q1, q2⟩ (fun hHeld => ?_)
        clear hK K
        refine norm_ (a' := ?_) ?_ ?_
        rotate_left
        · show Act.put _ (some 14) _ = _
          simp only [Act.put, List.setIfInBounds_toArray, List.set_cons_zero, List.set_cons_succ, i64_w, i32_w]
          rfl
        refine pure_ (i := 10) (N := some 15) (v := ?_) (a' := ?_) #[true, true, true, true, true, true, true, true, true, true, true, false, false] rfl rfl (by kernel_rfl) (fun _ _ _ h => h) (Or.inl ⟨by rfl, ?_⟩) ?_ ?_
        rotate_left
        · intro w'
          go_simp
          with_reducible rfl
        rotate_left
        · simp only [Act.put, List.setIfInBounds_toArray, List.set_cons_zero, List.set_cons_succ, i64_w, i32_w]
          rfl
        refine one_ (i := 11) (N := some 4) #[true, true, true, true, true, true, true, true, true, true, true, true, false] rfl rfl (by kernel_rfl) (by decide) (fun K hK => ?_)
        refine value_ (w1 := ?_) (v := ?_) (by rfl) rfl ?_ ?_
        rotate_left 2
        · go_simp
          constructor
          · rfl
          · rfl
        have hb1 : Below w4.heap.size w4 (w4.alloc (.cells #[.bool false, .slice none 0 0, .slice none 0 0] 45)) := below_alloc (Below.refl _ _) _
        have KG : Aside0 (hp (w4.alloc (.cells #[.bool false, .slice none 0 0, .slice none 0 0] 45)) w4.heap.size = some (.cells #[.bool false, .slice none 0 0, .slice none 0 0] 45 (0, 0))) := ⟨hp_new _ _ _ rfl⟩
        have HG := Aside0.mk HZ.out
        replace HX := Aside0.mk (HX.out.below hb1)
        replace HY := Aside0.mk (HY.out.below hb1)
        replace HP := Aside0.mk (HP.out.below hb1)
        replace HQ := Aside0.mk (HQ.out.below hb1)
        replace HB := Aside0.mk (below_step HB.out hb1)
        replace K0 := Aside0.mk (hp_below K0.out hb1)
        replace K1 := Aside0.mk (hp_below K1.out hb1)
        replace HZ := Aside0.mk (Nat.lt_of_lt_of_le HZ.out hb1.size)
        have q0 := (hb1.cell (p := ⟨w.heap.size, 0, none⟩) (World.block_lt_of_cell? _ _ hHeld.1)).trans hHeld.1
        have q1 := (hb1.cell (p := ⟨w.heap.size, 1, none⟩) (World.block_lt_of_cell? _ _ hHeld.2.1)).trans hHeld.2.1
        have q2 := (hb1.cell (p := ⟨w.heap.size, 2, none⟩) (World.block_lt_of_cell? _ _ hHeld.2.2)).trans hHeld.2.2
        clear hb1
        refine hK.out _ _ ⟨q0, q1, q2⟩ (fun hHeld => ?_)
        clear hK K
        refine norm_ (a' := ?_) ?_ ?_
        rotate_left
        · show Act.put _ (some 4) _ = _
          simp only [Act.put, List.setIfInBounds_toArray, List.set_cons_zero, List.set_cons_succ, i64_w, i32_w]
          rfl
        exact norm_ (by simp only [putAll, Act.put, List.setIfInBounds_toArray, List.set_cons_zero, List.set_cons_succ]) (hCont (A1, m1, c1, A3, m3, c3, w4.heap.size) _ ⟨HP.out, HQ.out, KG.out, HX.out, HY.out, HB.out, K0.out, K1.out, HG.out, hHeld⟩)
      · skip
        refine value_ (w1 := ?_) (v := ?_) (by rfl) rfl ?_ ?_
        rotate_left 2
        · go_simp
          constructor
          · rfl
          · rfl
        have hb1 : Below w3.heap.size w3 (w3.alloc (.cells #[.bool false, .slice none 0 0, .slice none 0 0] 45)) := below_alloc (Below.refl _ _) _
        have KG : Aside0 (hp (w3.alloc (.cells #[.bool false, .slice none 0 0, .slice none 0 0] 45)) w3.heap.size = some (.cells #[.bool false, .slice none 0 0, .slice none 0 0] 45 (0, 0))) := ⟨hp_new _ _ _ rfl⟩
        have HG := Aside0.mk HZ.out
        replace HX := Aside0.mk (HX.out.below hb1)
        replace HY := Aside0.mk (HY.out.below hb1)
        replace HP := Aside0.mk (HP.out.below hb1)
        replace HB := Aside0.mk (below_step HB.out hb1)
        replace K0 := Aside0.mk (hp_below K0.out hb1)
        replace K1 := Aside0.mk (hp_below K1.out hb1)
        replace HZ := Aside0.mk (Nat.lt_of_lt_of_le HZ.out hb1.size)
        have q0 := (hb1.cell (p := ⟨w.heap.size, 0, none⟩) (World.block_lt_of_cell? _ _ hHeld.1)).trans hHeld.1
        have q1 := (hb1.cell (p := ⟨w.heap.size, 1, none⟩) (World.block_lt_of_cell? _ _ hHeld.2.1)).trans hHeld.2.1
        have q2 := (hb1.cell (p := ⟨w.heap.size, 2, none⟩) (World.block_lt_of_cell? _ _ hHeld.2.2)).trans hHeld.2.2
        clear hb1
        refine hK.out _ _ ⟨q0, q1, q2⟩ (fun hHeld => ?_)
        clear hK K
        refine norm_ (a' := ?_) ?_ ?_
        rotate_left
        · show Act.put _ (some 4) _ = _
          simp only [Act.put, List.setIfInBounds_toArray, List.set_cons_zero, List.set_cons_succ, i64_w, i32_w]
          rfl
        refine one_ (i := 9) (N := some 14) #[true, true, true, true, true, true, true, true, true, true, false, true, false] rfl rfl (by kernel_rfl) (by decide) (fun K hK => ?_)
        refine goes_ Try.func9 (by kernel_rfl) rfl #[.slice A2 l2.length c2] (by rfl) rfl rfl (by simp only [List.map_toArray, List.map_cons, List.map_nil]; rfl) ?_
        with_reducible refine (of_s _ l2 _ HY.out (by have := HL.out.2; omega)).mono ?_
        rintro e w4 ⟨A3, m3, c3, rfl, hx, hb1⟩
        refine ⟨_, rfl, ?_⟩
        have HQ := Aside0.mk hx
        clear hx
        replace HX := Aside0.mk (HX.out.below hb1)
        replace HY := Aside0.mk (HY.out.below hb1)
        replace HP := Aside0.mk (HP.out.below hb1)
        replace HB := Aside0.mk (below_step HB.out hb1)
        replace K0 := Aside0.mk (hp_below K0.out hb1)
        replace K1 := Aside0.mk (hp_below K1.out hb1)
        replace HZ := Aside0.mk (Nat.lt_of_lt_of_le HZ.out hb1.size)
        have q0 := (hb1.cell (p := ⟨w.heap.size, 0, none⟩) (World.block_lt_of_cell? _ _ hHeld.1)).trans hHeld.1
        have q1 := (hb1.cell (p := ⟨w.heap.size, 1, none⟩) (World.block_lt_of_cell? _ _ hHeld.2.1)).trans hHeld.2.1
        have q2 := (hb1.cell (p := ⟨w.heap.size, 2, none⟩) (World.block_lt_of_cell? _ _ hHeld.2.2)).trans hHeld.2.2
        replace KG := Aside0.mk (hp_below KG.out hb1)
        clear hb1
        refine hK.out _ _ ⟨q0, q1, q2⟩ (fun hHeld => ?_)
        clear hK K
        refine norm_ (a' := ?_) ?_ ?_
        rotate_left
        · show Act.put _ (some 14) _ = _
          simp only [Act.put, List.setIfInBounds_toArray, List.set_cons_zero, List.set_cons_succ, i64_w, i32_w]
          rfl
        refine pure_ (i := 10) (N := some 15) (v := ?_) (a' := ?_) #[true, true, true, true, true, true, true, true, true, true, true, true, false] rfl rfl (by kernel_rfl) (fun _ _ _ h => h) (Or.inl ⟨by rfl, ?_⟩) ?_ ?_
        rotate_left
        · intro w'
          go_simp
          with_reducible rfl
        rotate_left
        · simp only [Act.put, List.setIfInBounds_toArray, List.set_cons_zero, List.set_cons_succ, i64_w, i32_w]
          rfl
        exact norm_ (by simp only [putAll, Act.put, List.setIfInBounds_toArray, List.set_cons_zero, List.set_cons_succ]) (hCont (A1, m1, c1, A3, m3, c3, w3.heap.size) _ ⟨HP.out, HQ.out, KG.out, HX.out, HY.out, HB.out, K0.out, K1.out, HG.out, hHeld⟩)
    · skip
      refine value_ (w1 := ?_) (v := ?_) (by rfl) rfl ?_ ?_
      rotate_left 2
      · go_simp
        constructor
        · rfl
        · rfl
      have hb1 : Below (((w.alloc (.cells #[.bool b, .slice A l.length c, .slice A2 l2.length c2] 37 (0, 0))).alloc (.cells #[.bool false, .slice none 0 0, .slice none 0 0] 45 (0, 0))).drew).heap.size (((w.alloc (.cells #[.bool b, .slice A l.length c, .slice A2 l2.length c2] 37 (0, 0))).alloc (.cells #[.bool false, .slice none 0 0, .slice none 0 0] 45 (0, 0))).drew) ((((w.alloc (.cells #[.bool b, .slice A l.length c, .slice A2 l2.length c2] 37 (0, 0))).alloc (.cells #[.bool false, .slice none 0 0, .slice none 0 0] 45 (0, 0))).alloc (.cells #[.bool false, .slice none 0 0, .slice none 0 0] 45)).drew) := below_alloc (Below.refl (((w.alloc (.cells #[.bool b, .slice A l.length c, .slice A2 l2.length c2] 37 (0, 0))).alloc (.cells #[.bool false, .slice none 0 0, .slice none 0 0] 45 (0, 0))).drew).heap.size (((w.alloc (.cells #[.bool b, .slice A l.length c, .slice A2 l2.length c2] 37 (0, 0))).alloc (.cells #[.bool false, .slice none 0 0, .slice none 0 0] 45 (0, 0))).drew)) (.cells #[.bool false, .slice none 0 0, .slice none 0 0] 45)
      have KG : Aside0 (hp ((((w.alloc (.cells #[.bool b, .slice A l.length c, .slice A2 l2.length c2] 37 (0, 0))).alloc (.cells #[.bool false, .slice none 0 0, .slice none 0 0] 45 (0, 0))).alloc (.cells #[.bool false, .slice none 0 0, .slice none 0 0] 45)).drew) (w.heap.size + 1 + 1) = some (.cells #[.bool false, .slice none 0 0, .slice none 0 0] 45 (0, 0))) := ⟨(hp_drew _ _).trans (hp_new _ _ _ (by simp))⟩
      have HG : Aside0 (w.heap.size + 1 < w.heap.size + 1 + 1) := ⟨by omega⟩
      replace HX := Aside0.mk (HX.out.below hb1)
      replace HY := Aside0.mk (HY.out.below hb1)
      replace HB := Aside0.mk (below_step HB.out hb1)
      replace K0 := Aside0.mk (hp_below K0.out hb1)
      replace K1 := Aside0.mk (hp_below K1.out hb1)
      replace HZ := Aside0.mk (Nat.lt_of_lt_of_le HZ.out hb1.size)
      have q0 := (hb1.cell (p := ⟨w.heap.size, 0, none⟩) (World.block_lt_of_cell? _ _ hHeld.1)).trans hHeld.1
      have q1 := (hb1.cell (p := ⟨w.heap.size, 1, none⟩) (World.block_lt_of_cell? _ _ hHeld.2.1)).trans hHeld.2.1
      have q2 := (hb1.cell (p := ⟨w.heap.size, 2, none⟩) (World.block_lt_of_cell? _ _ hHeld.2.2)).trans hHeld.2.2
      clear hb1
      refine hK.out _ _ ⟨q0, q1, q2⟩ (fun hHeld => ?_)
      clear hK K
      refine norm_ (a' := ?_) ?_ ?_
      rotate_left
      · show Act.put _ (some 4) _ = _
        simp only [Act.put, List.setIfInBounds_toArray, List.set_cons_zero, List.set_cons_succ, i64_w, i32_w]
        rfl
      refine one_ (i := 6) (N := some 11) #[true, true, true, true, true, true, true, true, true, false, false, true, false] rfl rfl (by kernel_rfl) (by decide) (fun K hK => ?_)
      refine goes_ Try.func9 (by kernel_rfl) rfl #[.slice A l.length c] (by rfl) rfl rfl (by simp only [List.map_toArray, List.map_cons, List.map_nil]; rfl) ?_
      with_reducible refine (of_s _ l _ HX.out (by have := HL.out.1; omega)).mono ?_
      rintro e w3 ⟨A1, m1, c1, rfl, hx, hb1⟩
      refine ⟨_, rfl, ?_⟩
      have HP := Aside0.mk hx
      clear hx
      replace HX := Aside0.mk (HX.out.below hb1)
      replace HY := Aside0.mk (HY.out.below hb1)
      replace HB := Aside0.mk (below_step HB.out hb1)
      replace K0 := Aside0.mk (hp_below K0.out hb1)
      replace K1 := Aside0.mk (hp_below K1.out hb1)
      replace HZ := Aside0.mk (Nat.lt_of_lt_of_le HZ.out hb1.size)
      have q0 := (hb1.cell (p := ⟨w.heap.size, 0, none⟩) (World.block_lt_of_cell? _ _ hHeld.1)).trans hHeld.1
      have q1 := (hb1.cell (p := ⟨w.heap.size, 1, none⟩) (World.block_lt_of_cell? _ _ hHeld.2.1)).trans hHeld.2.1
      have q2 := (hb1.cell (p := ⟨w.heap.size, 2, none⟩) (World.block_lt_of_cell? _ _ hHeld.2.2)).trans hHeld.2.2
      replace KG := Aside0.mk (hp_below KG.out hb1)
      clear hb1
      refine hK.out _ _ ⟨q0, q1, q2⟩ (fun hHeld => ?_)
      clear hK K
      refine norm_ (a' := ?_) ?_ ?_
      rotate_left
      · show Act.put _ (some 11) _ = _
        simp only [Act.put, List.setIfInBounds_toArray, List.set_cons_zero, List.set_cons_succ, i64_w, i32_w]
        rfl
      refine one_ (i := 9) (N := some 14) #[true, true, true, true, true, true, true, true, true, true, false, true, false] rfl rfl (by kernel_rfl) (by decide) (fun K hK => ?_)
      refine goes_ Try.func9 (by kernel_rfl) rfl #[.slice A2 l2.length c2] (by rfl) rfl rfl (by simp only [List.map_toArray, List.map_cons, List.map_nil]; rfl) ?_
      with_reducible refine (of_s _ l2 _ HY.out (by have := HL.out.2; omega)).mono ?_
      rintro e w4 ⟨A3, m3, c3, rfl, hx, hb1⟩
      refine ⟨_, rfl, ?_⟩
      have HQ := Aside0.mk hx
      clear hx
      replace HX := Aside0.mk (HX.out.below hb1)
      replace HY := Aside0.mk (HY.out.below hb1)
      replace HP := Aside0.mk (HP.out.below hb1)
      replace HB := Aside0.mk (below_step HB.out hb1)
      replace K0 := Aside0.mk (hp_below K0.out hb1)
      replace K1 := Aside0.mk (hp_below K1.out hb1)
      replace HZ := Aside0.mk (Nat.lt_of_lt_of_le HZ.out hb1.size)
      have q0 := (hb1.cell (p := ⟨w.heap.size, 0, none⟩) (World.block_lt_of_cell? _ _ hHeld.1)).trans hHeld.1
      have q1 := (hb1.cell (p := ⟨w.heap.size, 1, none⟩) (World.block_lt_of_cell? _ _ hHeld.2.1)).trans hHeld.2.1
      have q2 := (hb1.cell (p := ⟨w.heap.size, 2, none⟩) (World.block_lt_of_cell? _ _ hHeld.2.2)).trans hHeld.2.2
      replace KG := Aside0.mk (hp_below KG.out hb1)
      clear hb1
      refine hK.out _ _ ⟨q0, q1, q2⟩ (fun hHeld => ?_)
      clear hK K
      refine norm_ (a' := ?_) ?_ ?_
      rotate_left
      · show Act.put _ (some 14) _ = _
        simp only [Act.put, List.setIfInBounds_toArray, List.set_cons_zero, List.set_cons_succ, i64_w, i32_w]
        rfl
      refine pure_ (i := 10) (N := some 15) (v := ?_) (a' := ?_) #[true, true, true, true, true, true, true, true, true, true, true, true, false] rfl rfl (by kernel_rfl) (fun _ _ _ h => h) (Or.inl ⟨by rfl, ?_⟩) ?_ ?_
      rotate_left
      · intro w'
        go_simp
        with_reducible rfl
      rotate_left
      · simp only [Act.put, List.setIfInBounds_toArray, List.set_cons_zero, List.set_cons_succ, i64_w, i32_w]
        rfl
      exact norm_ (by simp only [putAll, Act.put, List.setIfInBounds_toArray, List.set_cons_zero, List.set_cons_succ]) (hCont (A1, m1, c1, A3, m3, c3, w.heap.size + 1 + 1) _ ⟨HP.out, HQ.out, KG.out, HX.out, HY.out, HB.out, K0.out, K1.out, HG.out, hHeld⟩)
  rintro ⟨A1, m1, c1, A3, m3, c3, g⟩ w5 ⟨hx, hy, kg, hxs, hys, hbb, k0, k1, hg, hHeld⟩
  clear HX HY HB K0 K1 HZ
  have HP : Aside0 (Dg w5 (.slice A1 m1 c1) (ev BW l)) := ⟨hx⟩
  have HQ : Aside0 (Dg w5 (.slice A3 m3 c3) (ev BW l2)) := ⟨hy⟩
  have KG : Aside0 (hp w5 g = some (.cells #[.bool false, .slice none 0 0, .slice none 0 0] 45 (0, 0))) := ⟨kg⟩
  have HX := Aside0.mk hxs
  have HY := Aside0.mk hys
  have HB := Aside0.mk hbb
  have K0 := Aside0.mk k0
  have K1 := Aside0.mk k1
  have hg : w.heap.size + 1 < g := hg
  have hg0 : w.heap.size < g := by omega
  obtain ⟨u0, u1, u2, v0, v1, v2⟩ := blk3 KG.out
  clear hx hy kg hxs hys hbb k0 k1
  refine norm_ (a' := ?_) ?_ ?_
  rotate_left
  · simp only [putAll, Act.put, List.setIfInBounds_toArray, List.set_cons_zero, List.set_cons_succ]
    rfl
  refine last_ (i := 12) (N := none) #[true, true, true, true, true, true, true, true, true, true, true, true, true] rfl rfl (by kernel_rfl) (by decide) (fun K hK => ?_)
  refine skip_ (w1 := ?_) (by rfl) rfl ?_ ?_
  rotate_left
  · go_simp
    rfl
  refine hK.out _ _ ?_
  clear hK K
  refine done_ (by kernel_rfl) ?_
  have HP2 : Aside0 (Dg (((w5.setCell ⟨g, 0, none⟩ (.bool b)).setCell ⟨g, 1, none⟩ (.slice A1 m1 c1)).setCell ⟨g, 2, none⟩ (.slice A3 m3 c3)) (.slice A1 m1 c1) (ev BW l)) := ⟨(fun {u : Value} {z : Int} (hz : Dg w5 u z) => (Dg.set (Dg.set (Dg.set hz u0 (by simp) (.bool b)) (u := .slice none 0 0) (by rw [World.cell?_setCell_other _ _ _ _ (by simp)]; exact u1) (by simp) (.slice A1 m1 c1)) (u := .slice none 0 0) (by rw [World.cell?_setCell_other _ _ _ _ (by simp), World.cell?_setCell_other _ _ _ _ (by simp)]; exact u2) (by simp) (.slice A3 m3 c3) : Dg (((w5.setCell ⟨g, 0, none⟩ (.bool b)).setCell ⟨g, 1, none⟩ (.slice A1 m1 c1)).setCell ⟨g, 2, none⟩ (.slice A3 m3 c3)) u z)) HP.out⟩
  have HQ2 : Aside0 (Dg (((w5.setCell ⟨g, 0, none⟩ (.bool b)).setCell ⟨g, 1, none⟩ (.slice A1 m1 c1)).setCell ⟨g, 2, none⟩ (.slice A3 m3 c3)) (.slice A3 m3 c3) (ev BW l2)) := ⟨(fun {u : Value} {z : Int} (hz : Dg w5 u z) => (Dg.set (Dg.set (Dg.set hz u0 (by simp) (.bool b)) (u := .slice none 0 0) (by rw [World.cell?_setCell_other _ _ _ _ (by simp)]; exact u1) (by simp) (.slice A1 m1 c1)) (u := .slice none 0 0) (by rw [World.cell?_setCell_other _ _ _ _ (by simp), World.cell?_setCell_other _ _ _ _ (by simp)]; exact u2) (by simp) (.slice A3 m3 c3) : Dg (((w5.setCell ⟨g, 0, none⟩ (.bool b)).setCell ⟨g, 1, none⟩ (.slice A1 m1 c1)).setCell ⟨g, 2, none⟩ (.slice A3 m3 c3)) u z)) HQ.out⟩
  have HX2 : Aside0 (Ws (((w5.setCell ⟨g, 0, none⟩ (.bool b)).setCell ⟨g, 1, none⟩ (.slice A1 m1 c1)).setCell ⟨g, 2, none⟩ (.slice A3 m3 c3)) (.slice A l.length c) l) := ⟨(fun {u : Value} {z : List Int} (hz : Ws w5 u z) => (Ws.set (Ws.set (Ws.set hz u0 (by simp) (.bool b)) (u := .slice none 0 0) (by rw [World.cell?_setCell_other _ _ _ _ (by simp)]; exact u1) (by simp) (.slice A1 m1 c1)) (u := .slice none 0 0) (by rw [World.cell?_setCell_other _ _ _ _ (by simp), World.cell?_setCell_other _ _ _ _ (by simp)]; exact u2) (by simp) (.slice A3 m3 c3) : Ws (((w5.setCell ⟨g, 0, none⟩ (.bool b)).setCell ⟨g, 1, none⟩ (.slice A1 m1 c1)).setCell ⟨g, 2, none⟩ (.slice A3 m3 c3)) u z)) HX.out⟩
  have HY2 : Aside0 (Ws (((w5.setCell ⟨g, 0, none⟩ (.bool b)).setCell ⟨g, 1, none⟩ (.slice A1 m1 c1)).setCell ⟨g, 2, none⟩ (.slice A3 m3 c3)) (.slice A2 l2.length c2) l2) := ⟨(fun {u : Value} {z : List Int} (hz : Ws w5 u z) => (Ws.set (Ws.set (Ws.set hz u0 (by simp) (.bool b)) (u := .slice none 0 0) (by rw [World.cell?_setCell_other _ _ _ _ (by simp)]; exact u1) (by simp) (.slice A1 m1 c1)) (u := .slice none 0 0) (by rw [World.cell?_setCell_other _ _ _ _ (by simp), World.cell?_setCell_other _ _ _ _ (by simp)]; exact u2) (by simp) (.slice A3 m3 c3) : Ws (((w5.setCell ⟨g, 0, none⟩ (.bool b)).setCell ⟨g, 1, none⟩ (.slice A1 m1 c1)).setCell ⟨g, 2, none⟩ (.slice A3 m3 c3)) u z)) HY.out⟩
  have HB2 : Aside0 (Below w.heap.size w (((w5.setCell ⟨g, 0, none⟩ (.bool b)).setCell ⟨g, 1, none⟩ (.slice A1 m1 c1)).setCell ⟨g, 2, none⟩ (.slice A3 m3 c3))) := ⟨((HB.out.setCell (p := ⟨g, 0, none⟩) (by simp; omega) _).setCell (p := ⟨g, 1, none⟩) (by simp; omega) _).setCell (p := ⟨g, 2, none⟩) (by simp; omega) _⟩
  have KG2 : Aside0 (hp (((w5.setCell ⟨g, 0, none⟩ (.bool b)).setCell ⟨g, 1, none⟩ (.slice A1 m1 c1)).setCell ⟨g, 2, none⟩ (.slice A3 m3 c3)) g = some (.cells #[.bool b, .slice A1 m1 c1, .slice A3 m3 c3] 45 (0, 0))) := ⟨by rw [hp_here _ _ _ _ _ rfl, hp_here _ _ _ _ _ rfl, hp_here _ _ _ _ _ rfl, KG.out]; rfl⟩
  have K02 : Aside0 (hp (((w5.setCell ⟨g, 0, none⟩ (.bool b)).setCell ⟨g, 1, none⟩ (.slice A1 m1 c1)).setCell ⟨g, 2, none⟩ (.slice A3 m3 c3)) w.heap.size = some (.cells #[.bool b, .slice A l.length c, .slice A2 l2.length c2] 37 (0, 0))) := ⟨by rw [hp_other _ _ _ _ (by simp; omega), hp_other _ _ _ _ (by simp; omega), hp_other _ _ _ _ (by simp; omega)]; exact K0.out⟩
  have K12 : Aside0 (hp (((w5.setCell ⟨g, 0, none⟩ (.bool b)).setCell ⟨g, 1, none⟩ (.slice A1 m1 c1)).setCell ⟨g, 2, none⟩ (.slice A3 m3 c3)) (w.heap.size + 1) = some (.cells #[.bool false, .slice none 0 0, .slice none 0 0] 45 (0, 0))) := ⟨by rw [hp_other _ _ _ _ (by simp; omega), hp_other _ _ _ _ (by simp; omega), hp_other _ _ _ _ (by simp; omega)]; exact K1.out⟩
  go_wp2_with (fail)
  obtain ⟨w6, hw6⟩ : ∃ w6, w6 = (((w5.setCell ⟨g, 0, none⟩ (.bool b)).setCell ⟨g, 1, none⟩ (.slice A1 m1 c1)).setCell ⟨g, 2, none⟩ (.slice A3 m3 c3)) := ⟨_, rfl⟩
  rw [← hw6] at HP2 HQ2 HX2 HY2 HB2 KG2 K02 K12 ⊢
  clear hw6 HP HQ HX HY HB KG K0 K1 u0 u1 u2 v0 v1 v2 hHeld
  obtain ⟨p0, p1, p2, _, _, _⟩ := blk3 K02.out
  obtain ⟨s0, s1, s2, _, _, _⟩ := blk3 KG2.out
  have hg6 := hp_lt KG2.out
  have hb1 := below_drew (Below.refl w6.heap.size w6)
  replace HP2 := Aside0.mk (HP2.out.below hb1)
  replace HQ2 := Aside0.mk (HQ2.out.below hb1)
  replace HX2 := Aside0.mk (HX2.out.below hb1)
  replace HY2 := Aside0.mk (HY2.out.below hb1)
  replace HB2 := Aside0.mk (below_drew HB2.out)
  replace K12 := Aside0.mk (hp_below K12.out hb1)
  clear hb1
  have HGL : Aside0 ((Int.gcd (ev BW l) (ev BW l2) : Int) < Lim) := ⟨by
    have e1 := HP2.out.nonneg
    have e2 := HQ2.out.nonneg
    by_cases h0 : ev BW l2 = 0
    · rw [h0, Int.gcd_zero_right]
      have := HN.out.1
      omega
    · have := Int.le_of_dvd (by omega) (Int.gcd_dvd_right (ev BW l) (ev BW l2))
      have := HN.out.2
      omega⟩
  have hg1 : ¬ g = w.heap.size + 1 := by omega
  by_cases hP : FrOk b l l2
  · skip
    refine start_ (n := 16) (S := fun w' => w'.cell? ⟨w.heap.size, 0, none⟩ = some (.bool b) ∧ w'.cell? ⟨w.heap.size, 1, none⟩ = some (.slice A l.length c) ∧ w'.cell? ⟨w.heap.size, 2, none⟩ = some (.slice A2 l2.length c2) ∧ w'.cell? ⟨g, 0, none⟩ = some (.bool b) ∧ w'.cell? ⟨g, 1, none⟩ = some (.slice A1 m1 c1) ∧ w'.cell? ⟨g, 2, none⟩ = some (.slice A3 m3 c3)) (ds := [14]) #[false, false, false, false, false, false, false, false, false, false, false, false, false, false, false, false] (by kernel_rfl) rfl rfl ⟨(by go_simp), (by go_simp), (by go_simp), (by go_simp), (by go_simp), (by go_simp)⟩ (fun hHeld => ?_)
    refine take_ (i := 0) (N := some 16) (v := ?_) (a' := ?_) #[true, false, false, false, false, false, false, false, false, false, false, false, false, false, false, false] rfl rfl (by kernel_rfl) (fun _ _ _ h => h) (Or.inl ⟨by rfl, ?_⟩) hHeld ?_ ?_
    rotate_left
    · rintro w' ⟨s0, s1, s2, s3, s4, s5⟩
      go_simp
      with_reducible rfl
    rotate_left
    · simp only [Act.put, List.setIfInBounds_toArray, List.set_cons_zero, List.set_cons_succ, i64_w, i32_w]
      rfl
    refine take_ (i := 1) (N := some 17) (v := ?_) (a' := ?_) #[true, true, false, false, false, false, false, false, false, false, false, false, false, false, false, false] rfl rfl (by kernel_rfl) (fun _ _ _ h => h) (Or.inl ⟨by rfl, ?_⟩) hHeld ?_ ?_
    rotate_left
    · rintro w' ⟨s0, s1, s2, s3, s4, s5⟩
      go_simp
      with_reducible rfl
    rotate_left
    · simp only [Act.put, List.setIfInBounds_toArray, List.set_cons_zero, List.set_cons_succ, i64_w, i32_w]
      rfl
    refine take_ (i := 2) (N := some 18) (v := ?_) (a' := ?_) #[true, true, true, false, false, false, false, false, false, false, false, false, false, false, false, false] rfl rfl (by kernel_rfl) (fun _ _ _ h => h) (Or.inl ⟨by rfl, ?_⟩) hHeld ?_ ?_
    rotate_left
    · rintro w' ⟨s0, s1, s2, s3, s4, s5⟩
      go_simp
      with_reducible rfl
    rotate_left
    · simp only [Act.put, List.setIfInBounds_toArray, List.set_cons_zero, List.set_cons_succ, i64_w, i32_w]
      rfl
    refine one_ (i := 3) (N := some 19) #[true, true, true, true, false, false, false, false, false, false, false, false, false, false, false, false] rfl rfl (by kernel_rfl) (by decide) (fun K hK => ?_)
    refine goes_ Try.func19 (by kernel_rfl) rfl #[.agg #[.bool b, .slice A l.length c, .slice A2 l2.length c2], .agg #[.bool b, .slice A1 m1 c1, .slice A3 m3 c3]] (by rfl) rfl rfl (by simp only [List.map_toArray, List.map_cons, List.map_nil]; rfl) ?_
    with_reducible refine (isFraction_c b b A A2 A1 A3 l.length c l2.length c2 m1 c1 m3 c3 l l2 (ev BW l) (ev BW l2) _ HX2.out HY2.out HP2.out HQ2.out HN.out.1 HN.out.2).mono ?_
    rintro e w7 ⟨r, rfl, hr, hb1⟩
    refine ⟨_, rfl, ?_⟩
    obtain rfl : r = true := hr.2 hP
    clear hr
    replace HP2 := Aside0.mk (HP2.out.below hb1)
    replace HQ2 := Aside0.mk (HQ2.out.below hb1)
    replace HB2 := Aside0.mk (below_step HB2.out hb1)
    replace K12 := Aside0.mk (hp_below K12.out hb1)
    have q0 := (hb1.cell (p := ⟨w.heap.size, 0, none⟩) (World.block_lt_of_cell? _ _ hHeld.1)).trans hHeld.1
    have q1 := (hb1.cell (p := ⟨w.heap.size, 1, none⟩) (World.block_lt_of_cell? _ _ hHeld.2.1)).trans hHeld.2.1
    have q2 := (hb1.cell (p := ⟨w.heap.size, 2, none⟩) (World.block_lt_of_cell? _ _ hHeld.2.2.1)).trans hHeld.2.2.1
    have q3 := (hb1.cell (p := ⟨g, 0, none⟩) (World.block_lt_of_cell? _ _ hHeld.2.2.2.1)).trans hHeld.2.2.2.1
    have q4 := (hb1.cell (p := ⟨g, 1, none⟩) (World.block_lt_of_cell? _ _ hHeld.2.2.2.2.1)).trans hHeld.2.2.2.2.1
    have q5 := (hb1.cell (p := ⟨g, 2, none⟩) (World.block_lt_of_cell? _ _ hHeld.2.2.2.2.2)).trans hHeld.2.2.2.2.2
    clear hb1
    refine hK.out _ _ ⟨q0, q1, q2, q3, q4, q5⟩ (fun hHeld => ?_)
    clear hK K
    refine norm_ (a' := ?_) ?_ ?_
    rotate_left
    · show Act.put _ (some 19) _ = _
      simp only [Act.put, List.setIfInBounds_toArray, List.set_cons_zero, List.set_cons_succ, i64_w, i32_w]
      rfl
    refine pure_ (i := 4) (N := some 20) (v := ?_) (a' := ?_) #[true, true, true, true, true, false, false, false, false, false, false, false, false, false, false, false] rfl rfl (by kernel_rfl) (fun _ _ _ h => h) (Or.inl ⟨by rfl, ?_⟩) ?_ ?_
    rotate_left
    · intro w'
      go_simp
      with_reducible rfl
    rotate_left
    · simp only [Act.put, List.setIfInBounds_toArray, List.set_cons_zero, List.set_cons_succ, i64_w, i32_w]
      rfl
    refine pure_ (i := 5) (N := some 21) (v := ?_) (a' := ?_) #[true, true, true, true, true, true, false, false, false, false, false, false, false, false, false, false] rfl rfl (by kernel_rfl) (fun _ _ _ h => h) (Or.inl ⟨by rfl, ?_⟩) ?_ ?_
    rotate_left
    · intro w'
      go_simp
      with_reducible rfl
    rotate_left
    · simp only [Act.put, List.setIfInBounds_toArray, List.set_cons_zero, List.set_cons_succ, i64_w, i32_w]
      rfl
    refine pure_ (i := 7) (N := some 23) (v := ?_) (a' := ?_) #[true, true, true, true, true, true, false, true, false, false, false, false, false, false, false, false] rfl rfl (by kernel_rfl) (fun _ _ _ h => h) (Or.inl ⟨by rfl, ?_⟩) ?_ ?_
    rotate_left
    · intro w'
      go_simp
      with_reducible rfl
    rotate_left
    · simp only [Act.put, List.setIfInBounds_toArray, List.set_cons_zero, List.set_cons_succ, i64_w, i32_w]
      rfl
    refine take_ (i := 6) (N := some 22) (v := ?_) (a' := ?_) #[true, true, true, true, true, true, true, true, false, false, false, false, false, false, false, false] rfl rfl (by kernel_rfl) (fun _ _ _ h => h) (Or.inl ⟨by rfl, ?_⟩) hHeld ?_ ?_
    rotate_left
    · rintro w' ⟨s0, s1, s2, s3, s4, s5⟩
      go_simp
      with_reducible rfl
    rotate_left
    · simp only [Act.put, List.setIfInBounds_toArray, List.set_cons_zero, List.set_cons_succ, i64_w, i32_w]
      rfl
    refine take_ (i := 8) (N := some 24) (v := ?_) (a' := ?_) #[true, true, true, true, true, true, true, true, true, false, false, false, false, false, false, false] rfl rfl (by kernel_rfl) (fun _ _ _ h => h) (Or.inl ⟨by rfl, ?_⟩) hHeld ?_ ?_
    rotate_left
    · rintro w' ⟨s0, s1, s2, s3, s4, s5⟩
      go_simp
      with_reducible rfl
    rotate_left
    · simp only [Act.put, List.setIfInBounds_toArray, List.set_cons_zero, List.set_cons_succ, i64_w, i32_w]
      rfl
    refine one_ (i := 9) (N := some 25) #[true, true, true, true, true, true, true, true, true, true, false, false, false, false, false, false] rfl rfl (by kernel_rfl) (by decide) (fun K hK => ?_)
    refine goes_ Try.func40 (by kernel_rfl) rfl #[.slice A1 m1 c1, .slice A3 m3 c3] (by rfl) rfl rfl (by simp only [List.map_toArray, List.map_cons, List.map_nil]; rfl) ?_
    with_reducible refine (gcd_c _ _ _ _ _ HP2.out HQ2.out HN.out.1 HN.out.2).mono ?_
    rintro e w8 ⟨vg, rfl, hx, hb1⟩
    refine ⟨_, rfl, ?_⟩
    have HG2 := Aside0.mk hx
    clear hx
    replace HP2 := Aside0.mk (HP2.out.below hb1)
    replace HQ2 := Aside0.mk (HQ2.out.below hb1)
    replace HB2 := Aside0.mk (below_step HB2.out hb1)
    replace K12 := Aside0.mk (hp_below K12.out hb1)
    have q0 := (hb1.cell (p := ⟨w.heap.size, 0, none⟩) (World.block_lt_of_cell? _ _ hHeld.1)).trans hHeld.1
    have q1 := (hb1.cell (p := ⟨w.heap.size, 1, none⟩) (World.block_lt_of_cell? _ _ hHeld.2.1)).trans hHeld.2.1
    have q2 := (hb1.cell (p := ⟨w.heap.size, 2, none⟩) (World.block_lt_of_cell? _ _ hHeld.2.2.1)).trans hHeld.2.2.1
    have q3 := (hb1.cell (p := ⟨g, 0, none⟩) (World.block_lt_of_cell? _ _ hHeld.2.2.2.1)).trans hHeld.2.2.2.1
    have q4 := (hb1.cell (p := ⟨g, 1, none⟩) (World.block_lt_of_cell? _ _ hHeld.2.2.2.2.1)).trans hHeld.2.2.2.2.1
    have q5 := (hb1.cell (p := ⟨g, 2, none⟩) (World.block_lt_of_cell? _ _ hHeld.2.2.2.2.2)).trans hHeld.2.2.2.2.2
    clear hb1
    refine hK.out _ _ ⟨q0, q1, q2, q3, q4, q5⟩ (fun hHeld => ?_)
    clear hK K
    refine norm_ (a' := ?_) ?_ ?_
    rotate_left
    · show Act.put _ (some 25) _ = _
      simp only [Act.put, List.setIfInBounds_toArray, List.set_cons_zero, List.set_cons_succ, i64_w, i32_w]
      rfl
    refine one_ (i := 10) (N := some 26) #[true, true, true, true, true, true, true, true, true, true, true, false, false, false, false, false] rfl rfl (by kernel_rfl) (by decide) (fun K hK => ?_)
    refine goes_ Try.func8 (by kernel_rfl) rfl #[.int .i64 1] (by rfl) rfl rfl (by simp only [List.map_toArray, List.map_cons, List.map_nil]; rfl) ?_
    with_reducible refine (small_c 1 (by omega) (by omega) _).mono ?_
    rintro e w9 ⟨vo, rfl, hx, hb1⟩
    refine ⟨_, rfl, ?_⟩
    have HO2 := Aside0.mk hx
    clear hx
    replace HP2 := Aside0.mk (HP2.out.below hb1)
    replace HQ2 := Aside0.mk (HQ2.out.below hb1)
    replace HG2 := Aside0.mk (HG2.out.below hb1)
    replace HB2 := Aside0.mk (below_step HB2.out hb1)
    replace K12 := Aside0.mk (hp_below K12.out hb1)
    have q0 := (hb1.cell (p := ⟨w.heap.size, 0, none⟩) (World.block_lt_of_cell? _ _ hHeld.1)).trans hHeld.1
    have q1 := (hb1.cell (p := ⟨w.heap.size, 1, none⟩) (World.block_lt_of_cell? _ _ hHeld.2.1)).trans hHeld.2.1
    have q2 := (hb1.cell (p := ⟨w.heap.size, 2, none⟩) (World.block_lt_of_cell? _ _ hHeld.2.2.1)).trans hHeld.2.2.1
    have q3 := (hb1.cell (p := ⟨g, 0, none⟩) (World.block_lt_of_cell? _ _ hHeld.2.2.2.1)).trans hHeld.2.2.2.1
    have q4 := (hb1.cell (p := ⟨g, 1, none⟩) (World.block_lt_of_cell? _ _ hHeld.2.2.2.2.1)).trans hHeld.2.2.2.2.1
    have q5 := (hb1.cell (p := ⟨g, 2, none⟩) (World.block_lt_of_cell? _ _ hHeld.2.2.2.2.2)).trans hHeld.2.2.2.2.2
    clear hb1
    refine hK.out _ _ ⟨q0, q1, q2, q3, q4, q5⟩ (fun hHeld => ?_)
    clear hK K
    refine norm_ (a' := ?_) ?_ ?_
    rotate_left
    · show Act.put _ (some 26) _ = _
      simp only [Act.put, List.setIfInBounds_toArray, List.set_cons_zero, List.set_cons_succ, i64_w, i32_w]
      rfl
    refine one_ (i := 11) (N := some 27) #[true, true, true, true, true, true, true, true, true, true, true, true, false, false, false, false] rfl rfl (by kernel_rfl) (by decide) (fun K hK => ?_)
    refine goes_ Try.func48 (by kernel_rfl) rfl #[vg, vo] (by rfl) rfl rfl (by simp only [List.map_toArray, List.map_cons, List.map_nil]; rfl) ?_
    with_reducible refine (cmp_c _ _ _ _ _ HG2.out HO2.out HGL.out).mono ?_
    rintro e w10 ⟨rfl, hb1⟩
    refine ⟨_, rfl, ?_⟩
    replace HP2 := Aside0.mk (HP2.out.below hb1)
    replace HQ2 := Aside0.mk (HQ2.out.below hb1)
    replace HB2 := Aside0.mk (below_step HB2.out hb1)
    replace K12 := Aside0.mk (hp_below K12.out hb1)
    have q0 := (hb1.cell (p := ⟨w.heap.size, 0, none⟩) (World.block_lt_of_cell? _ _ hHeld.1)).trans hHeld.1
    have q1 := (hb1.cell (p := ⟨w.heap.size, 1, none⟩) (World.block_lt_of_cell? _ _ hHeld.2.1)).trans hHeld.2.1
    have q2 := (hb1.cell (p := ⟨w.heap.size, 2, none⟩) (World.block_lt_of_cell? _ _ hHeld.2.2.1)).trans hHeld.2.2.1
    have q3 := (hb1.cell (p := ⟨g, 0, none⟩) (World.block_lt_of_cell? _ _ hHeld.2.2.2.1)).trans hHeld.2.2.2.1
    have q4 := (hb1.cell (p := ⟨g, 1, none⟩) (World.block_lt_of_cell? _ _ hHeld.2.2.2.2.1)).trans hHeld.2.2.2.2.1
    have q5 := (hb1.cell (p := ⟨g, 2, none⟩) (World.block_lt_of_cell? _ _ hHeld.2.2.2.2.2)).trans hHeld.2.2.2.2.2
    clear hb1
    obtain ⟨o0, o1, o2, j0, j1, j2⟩ := blk3 K12.out
    have hs9 := hp_lt K12.out
    refine hK.out _ _ ⟨q0, q1, q2, q3, q4, q5⟩ (fun hHeld => ?_)
    clear hK K
    refine norm_ (a' := ?_) ?_ ?_
    rotate_left
    · show Act.put _ (some 27) _ = _
      simp only [Act.put, List.setIfInBounds_toArray, List.set_cons_zero, List.set_cons_succ, i64_w, i32_w]
      rfl
    refine pure_ (i := 12) (N := some 28) (v := ?_) (a' := ?_) #[true, true, true, true, true, true, true, true, true, true, true, true, true, false, false, false] rfl rfl (by kernel_rfl) (fun _ _ _ h => h) (Or.inl ⟨by rfl, ?_⟩) ?_ ?_
    rotate_left
    · intro w'
      go_simp
      with_reducible rfl
    rotate_left
    · simp only [Act.put, List.setIfInBounds_toArray, List.set_cons_zero, List.set_cons_succ, i64_w, i32_w]
      rfl
    refine pure_ (i := 13) (N := some 29) (v := ?_) (a' := ?_) #[true, true, true, true, true, true, true, true, true, true, true, true, true, true, false, false] rfl rfl (by kernel_rfl) (fun _ _ _ h => h) (Or.inl ⟨by rfl, ?_⟩) ?_ ?_
    rotate_left
    · intro w'
      go_simp
      with_reducible rfl
    rotate_left
    · simp only [Act.put, List.setIfInBounds_toArray, List.set_cons_zero, List.set_cons_succ, i64_w, i32_w]
      rfl
    refine last_ (i := 14) (N := none) #[true, true, true, true, true, true, true, true, true, true, true, true, true, true, true, false] rfl rfl (by kernel_rfl) (by decide) (fun K hK => ?_)
    refine skip_ (w1 := ?_) (by rfl) rfl ?_ ?_
    rotate_left
    · go_simp
      rfl
    refine hK.out _ _ ?_
    clear hK K
    refine pure_ (i := 15) (N := some 3) (v := ?_) (a' := ?_) #[true, true, true, true, true, true, true, true, true, true, true, true, true, true, true, true] rfl rfl (by kernel_rfl) (fun _ _ _ h => h) (Or.inl ⟨by rfl, ?_⟩) ?_ ?_
    rotate_left
    · intro w'
      go_simp
      with_reducible rfl
    rotate_left
    · simp only [Act.put, List.setIfInBounds_toArray, List.set_cons_zero, List.set_cons_succ, i64_w, i32_w]
      rfl
    refine done_ (by kernel_rfl) ?_
    have HP3 := Aside0.mk (Dg.set (Dg.set (Dg.set HP2.out o0 (by simp) (.bool b)) (p := ⟨w.heap.size + 1, 1, none⟩) (u := .slice none 0 0) (by rw [World.cell?_setCell_other _ _ _ _ (by simp)]; exact o1) (by simp) (.slice A1 m1 c1)) (p := ⟨w.heap.size + 1, 2, none⟩) (u := .slice none 0 0) (by rw [World.cell?_setCell_other _ _ _ _ (by simp), World.cell?_setCell_other _ _ _ _ (by simp)]; exact o2) (by simp) (.slice A3 m3 c3))
    have HQ3 := Aside0.mk (Dg.set (Dg.set (Dg.set HQ2.out o0 (by simp) (.bool b)) (p := ⟨w.heap.size + 1, 1, none⟩) (u := .slice none 0 0) (by rw [World.cell?_setCell_other _ _ _ _ (by simp)]; exact o1) (by simp) (.slice A1 m1 c1)) (p := ⟨w.heap.size + 1, 2, none⟩) (u := .slice none 0 0) (by rw [World.cell?_setCell_other _ _ _ _ (by simp), World.cell?_setCell_other _ _ _ _ (by simp)]; exact o2) (by simp) (.slice A3 m3 c3))
    have HB3 := Aside0.mk (((HB2.out.setCell (p := ⟨w.heap.size + 1, 0, none⟩) (by simp) (.bool b)).setCell (p := ⟨w.heap.size + 1, 1, none⟩) (by simp) (.slice A1 m1 c1)).setCell (p := ⟨w.heap.size + 1, 2, none⟩) (by simp) (.slice A3 m3 c3))
    go_wp2_with (fail)
    refine bodyPost_ret (v := .tuple #[.agg #[.bool b, .slice A1 m1 c1, .slice A3 m3 c3], .bool (cmpI (Int.gcd (ev BW l) (ev BW l2)) 1 == 0)]) (by simp [results, Try.results32, go_sem, o0, o1, o2, j0, j1, j2]) rfl ?_
    exact ⟨_, _, _, _, _, _, _, rfl, fun _ => hP, HP3.out, HQ3.out, HB3.out⟩
  · skip
    refine start_ (n := 16) (S := fun w' => w'.cell? ⟨w.heap.size, 0, none⟩ = some (.bool b) ∧ w'.cell? ⟨w.heap.size, 1, none⟩ = some (.slice A l.length c) ∧ w'.cell? ⟨w.heap.size, 2, none⟩ = some (.slice A2 l2.length c2) ∧ w'.cell? ⟨g, 0, none⟩ = some (.bool b) ∧ w'.cell? ⟨g, 1, none⟩ = some (.slice A1 m1 c1) ∧ w'.cell? ⟨g, 2, none⟩ = some (.slice A3 m3 c3)) (ds := [14]) #[false, false, false, false, false, false, false, false, false, false, false, false, false, false, false, false] (by kernel_rfl) rfl rfl ⟨(by go_simp), (by go_simp), (by go_simp), (by go_simp), (by go_simp), (by go_simp)⟩ (fun hHeld => ?_)
    refine take_ (i := 0) (N := some 16) (v := ?_) (a' := ?_) #[true, false, false, false, false, false, false, false, false, false, false, false, false, false, false, false] rfl rfl (by kernel_rfl) (fun _ _ _ h => h) (Or.inl ⟨by rfl, ?_⟩) hHeld ?_ ?_
    rotate_left
    · rintro w' ⟨s0, s1, s2, s3, s4, s5⟩
      go_simp
      with_reducible rfl
    rotate_left
    · simp only [Act.put, List.setIfInBounds_toArray, List.set_cons_zero, List.set_cons_succ, i64_w, i32_w]
      rfl
    refine take_ (i := 1) (N := some 17) (v := ?_) (a' := ?_) #[true, true, false, false, false, false, false, false, false, false, false, false, false, false, false, false] rfl rfl (by kernel_rfl) (fun _ _ _ h => h) (Or.inl ⟨by rfl, ?_⟩) hHeld ?_ ?_
    rotate_left
    · rintro w' ⟨s0, s1, s2, s3, s4, s5⟩
      go_simp
      with_reducible rfl
    rotate_left
    · simp only [Act.put, List.setIfInBounds_toArray, List.set_cons_zero, List.set_cons_succ, i64_w, i32_w]
      rfl
    refine take_ (i := 2) (N := some 18) (v := ?_) (a' := ?_) #[true, true, true, false, false, false, false, false, false, false, false, false, false, false, false, false] rfl rfl (by kernel_rfl) (fun _ _ _ h => h) (Or.inl ⟨by rfl, ?_⟩) hHeld ?_ ?_
    rotate_left
    · rintro w' ⟨s0, s1, s2, s3, s4, s5⟩
      go_simp
      with_reducible rfl
    rotate_left
    · simp only [Act.put, List.setIfInBounds_toArray, List.set_cons_zero, List.set_cons_succ, i64_w, i32_w]
      rfl
    refine one_ (i := 3) (N := some 19) #[true, true, true, true, false, false, false, false, false, false, false, false, false, false, false, false] rfl rfl (by kernel_rfl) (by decide) (fun K hK => ?_)
    refine goes_ Try.func19 (by kernel_rfl) rfl #[.agg #[.bool b, .slice A l.length c, .slice A2 l2.length c2], .agg #[.bool b, .slice A1 m1 c1, .slice A3 m3 c3]] (by rfl) rfl rfl (by simp only [List.map_toArray, List.map_cons, List.map_nil]; rfl) ?_
    with_reducible refine (isFraction_c b b A A2 A1 A3 l.length c l2.length c2 m1 c1 m3 c3 l l2 (ev BW l) (ev BW l2) _ HX2.out HY2.out HP2.out HQ2.out HN.out.1 HN.out.2).mono ?_
    rintro e w7 ⟨r, rfl, hr, hb1⟩
    refine ⟨_, rfl, ?_⟩
    obtain rfl : r = false := by cases r with | false => rfl | true => exact absurd (hr.1 rfl) hP
    clear hr
    replace HP2 := Aside0.mk (HP2.out.below hb1)
    replace HQ2 := Aside0.mk (HQ2.out.below hb1)
    replace HB2 := Aside0.mk (below_step HB2.out hb1)
    replace K12 := Aside0.mk (hp_below K12.out hb1)
    have q0 := (hb1.cell (p := ⟨w.heap.size, 0, none⟩) (World.block_lt_of_cell? _ _ hHeld.1)).trans hHeld.1
    have q1 := (hb1.cell (p := ⟨w.heap.size, 1, none⟩) (World.block_lt_of_cell? _ _ hHeld.2.1)).trans hHeld.2.1
    have q2 := (hb1.cell (p := ⟨w.heap.size, 2, none⟩) (World.block_lt_of_cell? _ _ hHeld.2.2.1)).trans hHeld.2.2.1
    have q3 := (hb1.cell (p := ⟨g, 0, none⟩) (World.block_lt_of_cell? _ _ hHeld.2.2.2.1)).trans hHeld.2.2.2.1
    have q4 := (hb1.cell (p := ⟨g, 1, none⟩) (World.block_lt_of_cell? _ _ hHeld.2.2.2.2.1)).trans hHeld.2.2.2.2.1
    have q5 := (hb1.cell (p := ⟨g, 2, none⟩) (World.block_lt_of_cell? _ _ hHeld.2.2.2.2.2)).trans hHeld.2.2.2.2.2
    clear hb1
    obtain ⟨o0, o1, o2, j0, j1, j2⟩ := blk3 K12.out
    have hs9 := hp_lt K12.out
    refine hK.out _ _ ⟨q0, q1, q2, q3, q4, q5⟩ (fun hHeld => ?_)
    clear hK K
    refine norm_ (a' := ?_) ?_ ?_
    rotate_left
    · show Act.put _ (some 19) _ = _
      simp only [Act.put, List.setIfInBounds_toArray, List.set_cons_zero, List.set_cons_succ, i64_w, i32_w]
      rfl
    refine pure_ (i := 4) (N := some 20) (v := ?_) (a' := ?_) #[true, true, true, true, true, false, false, false, false, false, false, false, false, false, false, false] rfl rfl (by kernel_rfl) (fun _ _ _ h => h) (Or.inl ⟨by rfl, ?_⟩) ?_ ?_
    rotate_left
    · intro w'
      go_simp
      with_reducible rfl
    rotate_left
    · simp only [Act.put, List.setIfInBounds_toArray, List.set_cons_zero, List.set_cons_succ, i64_w, i32_w]
      rfl
    refine pure_ (i := 5) (N := some 21) (v := undef) (a' := ?_) #[true, true, true, true, true, true, false, false, false, false, false, false, false, false, false, false] rfl rfl (by kernel_rfl) (fun _ _ _ h => h) (Or.inr ⟨by rfl, rfl⟩) ?_ ?_
    rotate_left
    · simp only [Act.put, List.setIfInBounds_toArray, List.set_cons_zero, List.set_cons_succ, i64_w, i32_w]
      rfl
    refine pure_ (i := 6) (N := some 22) (v := undef) (a' := ?_) #[true, true, true, true, true, true, true, false, false, false, false, false, false, false, false, false] rfl rfl (by kernel_rfl) (fun _ _ _ h => h) (Or.inr ⟨by rfl, rfl⟩) ?_ ?_
    rotate_left
    · simp only [Act.put, List.setIfInBounds_toArray, List.set_cons_zero, List.set_cons_succ, i64_w, i32_w]
      rfl
    refine pure_ (i := 7) (N := some 23) (v := undef) (a' := ?_) #[true, true, true, true, true, true, true, true, false, false, false, false, false, false, false, false] rfl rfl (by kernel_rfl) (fun _ _ _ h => h) (Or.inr ⟨by rfl, rfl⟩) ?_ ?_
    rotate_left
    · simp only [Act.put, List.setIfInBounds_toArray, List.set_cons_zero, List.set_cons_succ, i64_w, i32_w]
      rfl
    refine pure_ (i := 8) (N := some 24) (v := undef) (a' := ?_) #[true, true, true, true, true, true, true, true, true, false, false, false, false, false, false, false] rfl rfl (by kernel_rfl) (fun _ _ _ h => h) (Or.inr ⟨by rfl, rfl⟩) ?_ ?_
    rotate_left
    · simp only [Act.put, List.setIfInBounds_toArray, List.set_cons_zero, List.set_cons_succ, i64_w, i32_w]
      rfl
    refine pure_ (i := 9) (N := some 25) (v := undef) (a' := ?_) #[true, true, true, true, true, true, true, true, true, true, false, false, false, false, false, false] rfl rfl (by kernel_rfl) (fun _ _ _ h => h) (Or.inr ⟨by rfl, rfl⟩) ?_ ?_
    rotate_left
    · simp only [Act.put, List.setIfInBounds_toArray, List.set_cons_zero, List.set_cons_succ, i64_w, i32_w]
      rfl
    refine pure_ (i := 10) (N := some 26) (v := undef) (a' := ?_) #[true, true, true, true, true, true, true, true, true, true, true, false, false, false, false, false] rfl rfl (by kernel_rfl) (fun _ _ _ h => h) (Or.inr ⟨by rfl, rfl⟩) ?_ ?_
    rotate_left
    · simp only [Act.put, List.setIfInBounds_toArray, List.set_cons_zero, List.set_cons_succ, i64_w, i32_w]
      rfl
    refine pure_ (i := 11) (N := some 27) (v := undef) (a' := ?_) #[true, true, true, true, true, true, true, true, true, true, true, true, false, false, false, false] rfl rfl (by kernel_rfl) (fun _ _ _ h => h) (Or.inr ⟨by rfl, rfl⟩) ?_ ?_
    rotate_left
    · simp only [Act.put, List.setIfInBounds_toArray, List.set_cons_zero, List.set_cons_succ, i64_w, i32_w]
      rfl
    refine pure_ (i := 12) (N := some 28) (v := undef) (a' := ?_) #[true, true, true, true, true, true, true, true, true, true, true, true, true, false, false, false] rfl rfl (by kernel_rfl) (fun _ _ _ h => h) (Or.inr ⟨by rfl, rfl⟩) ?_ ?_
    rotate_left
    · simp only [Act.put, List.setIfInBounds_toArray, List.set_cons_zero, List.set_cons_succ, i64_w, i32_w]
      rfl
    refine pure_ (i := 13) (N := some 29) (v := ?_) (a' := ?_) #[true, true, true, true, true, true, true, true, true, true, true, true, true, true, false, false] rfl rfl (by kernel_rfl) (fun _ _ _ h => h) (Or.inl ⟨by rfl, ?_⟩) ?_ ?_
    rotate_left
    · intro w'
      go_simp
      with_reducible rfl
    rotate_left
    · simp only [Act.put, List.setIfInBounds_toArray, List.set_cons_zero, List.set_cons_succ, i64_w, i32_w]
      rfl
    refine last_ (i := 14) (N := none) #[true, true, true, true, true, true, true, true, true, true, true, true, true, true, true, false] rfl rfl (by kernel_rfl) (by decide) (fun K hK => ?_)
    refine skip_ (w1 := ?_) (by rfl) rfl ?_ ?_
    rotate_left
    · go_simp
      rfl
    refine hK.out _ _ ?_
    clear hK K
    refine pure_ (i := 15) (N := some 3) (v := ?_) (a' := ?_) #[true, true, true, true, true, true, true, true, true, true, true, true, true, true, true, true] rfl rfl (by kernel_rfl) (fun _ _ _ h => h) (Or.inl ⟨by rfl, ?_⟩) ?_ ?_
    rotate_left
    · intro w'
      go_simp
      with_reducible rfl
    rotate_left
    · simp only [Act.put, List.setIfInBounds_toArray, List.set_cons_zero, List.set_cons_succ, i64_w, i32_w]
      rfl
    refine done_ (by kernel_rfl) ?_
    have HP3 := Aside0.mk (Dg.set (Dg.set (Dg.set HP2.out o0 (by simp) (.bool b)) (p := ⟨w.heap.size + 1, 1, none⟩) (u := .slice none 0 0) (by rw [World.cell?_setCell_other _ _ _ _ (by simp)]; exact o1) (by simp) (.slice A1 m1 c1)) (p := ⟨w.heap.size + 1, 2, none⟩) (u := .slice none 0 0) (by rw [World.cell?_setCell_other _ _ _ _ (by simp), World.cell?_setCell_other _ _ _ _ (by simp)]; exact o2) (by simp) (.slice A3 m3 c3))
    have HQ3 := Aside0.mk (Dg.set (Dg.set (Dg.set HQ2.out o0 (by simp) (.bool b)) (p := ⟨w.heap.size + 1, 1, none⟩) (u := .slice none 0 0) (by rw [World.cell?_setCell_other _ _ _ _ (by simp)]; exact o1) (by simp) (.slice A1 m1 c1)) (p := ⟨w.heap.size + 1, 2, none⟩) (u := .slice none 0 0) (by rw [World.cell?_setCell_other _ _ _ _ (by simp), World.cell?_setCell_other _ _ _ _ (by simp)]; exact o2) (by simp) (.slice A3 m3 c3))
    have HB3 := Aside0.mk (((HB2.out.setCell (p := ⟨w.heap.size + 1, 0, none⟩) (by simp) (.bool b)).setCell (p := ⟨w.heap.size + 1, 1, none⟩) (by simp) (.slice A1 m1 c1)).setCell (p := ⟨w.heap.size + 1, 2, none⟩) (by simp) (.slice A3 m3 c3))
    go_wp2_with (fail)
    refine bodyPost_ret (v := .tuple #[.agg #[.bool b, .slice A1 m1 c1, .slice A3 m3 c3], .bool (false)]) (by simp [results, Try.results32, go_sem, o0, o1, o2, j0, j1, j2]) rfl ?_
    exact ⟨_, _, _, _, _, _, _, rfl, (fun h => by cases h), HP3.out, HQ3.out, HB3.out⟩
end Go.Proofs.Ytapofoipfdjfhaa.Sp
end

/-! ## LFrac -/
section
namespace Go.Proofs.Ytapofoipfdjfhaa.Sp
open Go.RowKit Go.Proofs.YtapofoipfdjfhaaW.PrintWords Go.Proofs.YtapofoipfdjfhaaW.PrintLast Go.Proofs.YtapofoipfdjfhaaW.PrintMore Go.Proofs.Ytapofoipfdjfhaa.Dig
set_option linter.unusedVariables false
set_option linter.unusedSimpArgs false
/-- What 'fraction' tells. -/
def LFr (w : World) (b : Bool) (l l2 : List Int) (k : Int) (e : Ending) (w' : World) : Prop :=
  ∃ r s A' m' c' A2' m2' c2', e = .returned (.tuple #[.agg #[.bool s, .slice A' m' c', .slice A2' m2' c2'], .bool r]) ∧ (r = true → s = b ∧ FrOk b l l2 ∧ l.length ≤ k ∧ l2.length ≤ k ∧ 0 < ev BW l2 ∧ Dg w' (.slice A' m' c') (ev BW l) ∧ Dg w' (.slice A2' m2' c2') (ev BW l2)) ∧ Below w.heap.size w w'
set_option maxHeartbeats 3200000 in
set_option maxRecDepth 100000 in
theorem lfraction_c (b : Bool) (A A2 : Option Addr) (c c2 : Nat) (l l2 : List Int) (k : Int) (w : World) (h : Ws w (.slice A l.length c) l) (h2 : Ws w (.slice A2 l2.length c2) l2) (hk : k ≤ 10000) :
    Calls Try.prog 16 #[.agg #[.bool b, .slice A l.length c, .slice A2 l2.length c2], .int .i64 k] w (LFr w b l l2 k) := by
  have hb : Below w.heap.size w ((w.alloc (.cells #[.bool b, .slice A l.length c, .slice A2 l2.length c2] 37)).alloc (.cells #[.bool false, .slice none 0 0, .slice none 0 0] 45)) := below_alloc (below_alloc (Below.refl _ _) _) _
  have HX := Aside0.mk (h.below hb)
  have HY := Aside0.mk (h2.below hb)
  have HB := Aside0.mk hb
  have hu := Try.underlying37
  have hu2 := Try.underlying45
  clear h h2 hb
  by_cases hl : k < l.length
  · go_enter Try.func16, Try.ntmps16
    go_wp2_with ((fail_if_success go_at_call 9); (fail_if_success go_at_call 32); go_in)
    refine bodyPost_ret (v := .tuple #[.agg #[.bool false, .slice none 0 0, .slice none 0 0], .bool false]) (by simp [results, Try.results16, go_sem]) rfl ?_
    exact ⟨false, _, _, _, _, _, _, _, rfl, (fun h => by cases h), (by repeat (first | (with_reducible first | exact HB.out | apply below_alloc | apply pw_below_drewN | apply below_drew1 | refine below_set ?_ (by simp)) | exact HB.out))⟩
  · by_cases hl2 : k < l2.length
    · go_enter Try.func16, Try.ntmps16
      go_wp2_with ((fail_if_success go_at_call 9); (fail_if_success go_at_call 32); go_in)
      refine bodyPost_ret (v := .tuple #[.agg #[.bool false, .slice none 0 0, .slice none 0 0], .bool false]) (by simp [results, Try.results16, go_sem]) rfl ?_
      exact ⟨false, _, _, _, _, _, _, _, rfl, (fun h => by cases h), (by repeat (first | (with_reducible first | exact HB.out | apply below_alloc | apply pw_below_drewN | apply below_drew1 | refine below_set ?_ (by simp)) | exact HB.out))⟩
    · go_enter Try.func16, Try.ntmps16
      go_wp2_with ((fail_if_success go_at_call 9); (fail_if_success go_at_call 32); go_in)
      refine (of_s _ l2 _ HY.out (by omega)).mono ?_
      rintro e w1 ⟨A3, m3, c3, rfl, hv, hb1⟩
      have hpos := hv.pos_iff
      have hnn := hv.nonneg
      have k0 := hp_below (show hp _ w.heap.size = some (.cells #[.bool b, .slice A l.length c, .slice A2 l2.length c2] 37 (0, 0)) from (by simp (disch := first | omega | (simp; omega) | (simp; done) | fail) [hp_new, hp_old, hp_here, hp_other, setObj_cells, hp_drew, hp_drewN])) hb1
      have k1 := hp_below (show hp _ (w.heap.size + 1) = some (.cells #[.bool false, .slice none 0 0, .slice none 0 0] 45 (0, 0)) from (by simp (disch := first | omega | (simp; omega) | (simp; done) | fail) [hp_new, hp_old, hp_here, hp_other, setObj_cells, hp_drew, hp_drewN])) hb1
      replace HX := Aside0.mk (HX.out.below hb1)
      replace HY := Aside0.mk (HY.out.below hb1)
      replace HB := Aside0.mk (below_step HB.out hb1)
      have K1 := Aside0.mk k1
      have hs1 := hp_lt k1
      have hs0 := hp_lt k0
      obtain ⟨q0, q1, q2, _, _, _⟩ := blk3 k0
      obtain ⟨o0, o1, o2, j0, j1, j2⟩ := blk3 k1
      clear k0 k1 hb1 hv
      by_cases hd : m3 = 0
      · clear hpos
        subst hd
        go_wp2_with ((fail_if_success go_at_call 9); (fail_if_success go_at_call 32); go_in)
        refine bodyPost_ret (v := .tuple #[.agg #[.bool false, .slice none 0 0, .slice none 0 0], .bool false]) (by simp [results, Try.results16, go_sem, o0, o1, o2, j0, j1, j2]) rfl ?_
        exact ⟨false, _, _, _, _, _, _, _, rfl, (fun h => by cases h), ((HB.out.setCell (p := ⟨w.heap.size + 1, 0, none⟩) (by simp) _).setCell (p := ⟨w.heap.size + 1, 1, none⟩) (by simp) _).setCell (p := ⟨w.heap.size + 1, 2, none⟩) (by simp) _⟩
      · have HD0 := Aside0.mk (show 0 < ev BW l2 from hpos.1 (by omega))
        clear hpos
        have hdb : ((m3 : Int) == 0) = false := by rw [beq_eq_false_iff_ne]; omega
        go_wp2_with ((fail_if_success go_at_call 9); (fail_if_success go_at_call 32); go_in)
        refine (ofFraction_c b A A2 c c2 l l2 _ HX.out HY.out (by omega) (by omega)).mono ?_
        rintro e w2 ⟨r, A4, m4, c4, A5, m5, c5, rfl, hr, hx, hy, hb1⟩
        have k1 := hp_below K1.out hb1
        have hs2 := hp_lt k1
        obtain ⟨z0, z1, z2, y0, y1, y2⟩ := blk3 k1
        have HB2 := Aside0.mk (below_step HB.out hb1)
        have HR := Aside0.mk hr
        have HV1 := Aside0.mk (Dg.set (Dg.set (Dg.set hx z0 (by simp) (.bool b)) (p := ⟨w.heap.size + 1, 1, none⟩) (u := .slice none 0 0) (by rw [World.cell?_setCell_other _ _ _ _ (by simp)]; exact z1) (by simp) (.slice A4 m4 c4)) (p := ⟨w.heap.size + 1, 2, none⟩) (u := .slice none 0 0) (by rw [World.cell?_setCell_other _ _ _ _ (by simp), World.cell?_setCell_other _ _ _ _ (by simp)]; exact z2) (by simp) (.slice A5 m5 c5))
        have HV2 := Aside0.mk (Dg.set (Dg.set (Dg.set hy z0 (by simp) (.bool b)) (p := ⟨w.heap.size + 1, 1, none⟩) (u := .slice none 0 0) (by rw [World.cell?_setCell_other _ _ _ _ (by simp)]; exact z1) (by simp) (.slice A4 m4 c4)) (p := ⟨w.heap.size + 1, 2, none⟩) (u := .slice none 0 0) (by rw [World.cell?_setCell_other _ _ _ _ (by simp), World.cell?_setCell_other _ _ _ _ (by simp)]; exact z2) (by simp) (.slice A5 m5 c5))
        have hll : (l.length : Int) ≤ k := by omega
        have hll2 : (l2.length : Int) ≤ k := by omega
        clear k1 hb1 hr hx hy o0 o1 o2 j0 j1 j2 q0 q1 q2 HX HY HB K1
        go_wp2_with (fail)
        refine bodyPost_ret (v := .tuple #[.agg #[.bool b, .slice A4 m4 c4, .slice A5 m5 c5], .bool r]) (by simp [results, Try.results16, go_sem, z0, z1, z2, y0, y1, y2]) rfl ?_
        exact ⟨r, b, _, _, _, _, _, _, rfl, (fun h => ⟨rfl, HR.out h, hll, hll2, HD0.out, HV1.out, HV2.out⟩), ((HB2.out.setCell (p := ⟨w.heap.size + 1, 0, none⟩) (by simp) _).setCell (p := ⟨w.heap.size + 1, 1, none⟩) (by simp) _).setCell (p := ⟨w.heap.size + 1, 2, none⟩) (by simp) _⟩
end Go.Proofs.Ytapofoipfdjfhaa.Sp
end
