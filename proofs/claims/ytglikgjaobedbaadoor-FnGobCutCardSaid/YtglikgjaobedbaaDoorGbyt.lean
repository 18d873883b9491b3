/-
  MERGED BY PROGRAM (regroup.py): Byt, Bytes, SetBytes.
-/
import Derived.Test.YtglikgjaobedbaaDoorGdig
import Derived.Test.YtglikgjaobedbaaDoorGnat
import Derived.Test.YtglikgjaobedbaaDoorGflt
import Derived.Test.YtglikgjaobedbaaDoorSpBBeUint32
import Derived.Lib.EndianBits
/-! ## Byt -/
section
namespace Go.Proofs.YtglikgjaobedbaaDoor.Dig
set_option linter.unusedVariables false
set_option linter.unusedSimpArgs false
def byt (d : Int) : Nat → List Int
  | 0 => []
  | k + 1 => byt d k ++ [d / 256 ^ k % 256]
def le : List Int → List Int
  | [] => []
  | d :: l => byt d 8 ++ le l
theorem byt_len (d : Int) (k : Nat) : (byt d k).length = k := by
  induction k with
  | zero => rfl
  | succ k ih => simp [byt, ih]
theorem byt_ok (d : Int) (k : Nat) : okd 256 (byt d k) := by
  induction k with
  | zero => exact okd_nil _
  | succ k ih => exact okd_append.2 ⟨ih, okd_cons.2 ⟨⟨Int.emod_nonneg _ (by omega), Int.emod_lt_of_pos _ (by omega)⟩, okd_nil _⟩⟩
theorem byt_ev (d : Int) (k : Nat) : ev 256 (byt d k) = d % 256 ^ k := by
  induction k with
  | zero => simp [byt, ev_nil]
  | succ k ih =>
    rw [byt, ev_snoc, ih, byt_len, Int.pow_succ]
    have h0 : (0 : Int) ≤ 256 ^ k := Int.le_of_lt (Int.pow_pos (by omega))
    rw [Int.emod_def d (256 ^ k * 256), Int.emod_def (d / 256 ^ k), Int.emod_def d, Int.ediv_ediv_of_nonneg h0]
    generalize (256 : Int) ^ k = a
    generalize d / (a * 256) = q
    generalize d / a = r
    grind
theorem le_append (l m : List Int) : le (l ++ m) = le l ++ le m := by
  induction l with
  | nil => rfl
  | cons d l ih => simp [le, ih]
theorem le_len (l : List Int) : (le l).length = 8 * l.length := by
  induction l with
  | nil => rfl
  | cons d l ih => simp [le, ih, byt_len]; omega
theorem le_ok (l : List Int) : okd 256 (le l) := by
  induction l with
  | nil => exact okd_nil _
  | cons d l ih => exact okd_append.2 ⟨byt_ok _ _, ih⟩
theorem le_ev (l : List Int) (h : okd BW l) : ev 256 (le l) = ev BW l := by
  induction l with
  | nil => rw [le, ev_nil, ev_nil]
  | cons d l ih =>
    have h1 := okd_cons.1 h
    have e : (256 : Int) ^ 8 = BW := by rw [BW_def]; rfl
    rw [le, ev_append, byt_len, byt_ev, ih h1.2, ev_cons, e, Int.emod_eq_of_lt h1.1.1 h1.1.2]
/-- The bytes bs laid into xs ahead of place L, the last one first. -/
def wrt (xs : List Int) (L : Nat) (bs : List Int) : List Int := xs.take (L - bs.length) ++ bs.reverse ++ xs.drop L
theorem wrt_nil (xs : List Int) (L : Nat) : wrt xs L [] = xs := by simp [wrt]
theorem wrt_len (xs : List Int) (L : Nat) (bs : List Int) (h : bs.length ≤ L) (hL : L ≤ xs.length) : (wrt xs L bs).length = xs.length := by
  simp [wrt]; omega
theorem wrt_set (xs : List Int) (L : Nat) (bs : List Int) (b : Int) (h : bs.length < L) (hL : L ≤ xs.length) : (wrt xs L bs).set (L - bs.length - 1) b = wrt xs L (bs ++ [b]) := by
  obtain ⟨y, hy⟩ : ∃ y, L - bs.length = y + 1 := ⟨L - bs.length - 1, by omega⟩
  have e1 : (xs.take (y + 1)) = xs.take y ++ [xs[y]'(by omega)] := List.take_succ_eq_append_getElem (by omega)
  have hyl : (xs.take y).length = y := by rw [List.length_take]; omega
  unfold wrt
  rw [List.length_append, List.length_singleton, show L - (bs.length + 1) = y by omega, hy, e1, Nat.add_sub_cancel]
  simp only [List.append_assoc, List.reverse_append, List.reverse_cons, List.reverse_nil, List.nil_append, List.singleton_append, List.cons_append]
  rw [List.set_append_right _ _ (by omega), hyl, Nat.sub_self, List.set_cons_zero]
theorem wrt_get (xs : List Int) (L : Nat) (bs : List Int) (i : Nat) (h : bs.length ≤ L) (hL : L ≤ xs.length) (hi : i < bs.length) : (wrt xs L bs).getD (L - 1 - i) 0 = bs.getD i 0 := by
  have hyl : (xs.take (L - bs.length)).length = L - bs.length := by rw [List.length_take]; omega
  unfold wrt
  simp only [List.getD_eq_getElem?_getD, List.append_assoc]
  rw [List.getElem?_append_right (by omega), hyl, List.getElem?_append_left (by simp; omega), List.getElem?_reverse (by omega)]
  congr 2
  omega
end Go.Proofs.YtglikgjaobedbaaDoor.Dig
end

/-! ## Bytes -/
section
namespace Go.Proofs.YtglikgjaobedbaaDoor.Sp
open Go.RowKit Go.Proofs.YtglikgjaobedbaaDoorW.PrintWords Go.Proofs.YtglikgjaobedbaaDoorW.PrintLast Go.Proofs.YtglikgjaobedbaaDoorW.PrintMore Go.Proofs.YtglikgjaobedbaaDoor.Dig
set_option linter.unusedVariables false
set_option linter.unusedSimpArgs false
/-- A block of bytes. -/
def u8s (l : List Int) : Array Value := (l.map (Value.int .u8)).toArray
theorem u8s_size (l : List Int) : (u8s l).size = l.length := by simp [u8s]
theorem u8s_get (l : List Int) (i : Nat) (h : i < l.length) : (u8s l)[i]? = some (.int .u8 (l.getD i 0)) := by
  simp [u8s, List.getD, List.getElem?_eq_getElem h]
theorem u8s_set (l : List Int) (i : Nat) (x : Int) : (u8s l).setIfInBounds i (.int .u8 x) = u8s (l.set i x) := by
  simp [u8s, List.map_set]
theorem u8s_rep (n : Nat) : Array.replicate n (Value.int .u8 0) = u8s (List.replicate n 0) := by
  simp [u8s]
set_option maxHeartbeats 1600000 in
set_option maxRecDepth 100000 in
theorem bytes_c (A : Option Addr) (m c : Nat) (l : List Int) (g L cb : Nat) (xs : List Int) (tb : TypeId) (w0 w : World) (h : Ws w0 (.slice A m c) l) (hB : Below w0.heap.size w0 w) (hg : w0.heap.size ≤ g) (hb : hp w g = some (.cells (u8s xs) tb (0, 0))) (hL : L ≤ xs.length) (h8 : 8 * l.length ≤ L) (hbig : L ≤ 1000000) :
    Calls Tryd.prog 83 #[.slice A m c, .slice (some ⟨g, 0, none⟩) L cb] w fun e w' => e = .returned (.int .i64 ((L - (strip (le l)).length : Nat) : Int)) ∧ hp w' g = some (.cells (u8s (wrt xs L (le l))) tb (0, 0)) ∧ Below w0.heap.size w0 w' := by
  obtain ⟨A', c', e, h2, h3, h4⟩ := h
  injection e with e1 e2 e3
  subst e1 e2 e3
  have HR := Aside0.mk h3
  have HOK := Aside0.mk h4
  have HB0 := Aside0.mk hB
  have HG := Aside0.mk hb
  clear h3 h4 hB hb
  go_enter Tryd.func83, Tryd.ntmps83
  go_wp2_with (fail)
  go_loopw [4, 12] (fun v4 v12 wr => ∃ (q y : Nat), q ≤ l.length ∧ y + 8 * q = L ∧ v12 = .int .i64 (q : Int) ∧ v4 = .int .i64 (y : Int) ∧ Aside0 (hp wr g = some (.cells (u8s (wrt xs L (le (l.take q)))) tb (0, 0))) ∧ Aside0 (Below w0.heap.size w0 wr)) (fun _ v _ => l.length - (intOf v).toNat)
  case atStart => exact ⟨0, L, by omega, by omega, rfl, rfl, ⟨by rw [List.take_zero, le, wrt_nil]; exact HG.out⟩, HB0⟩
  case round =>
    obtain ⟨q, y, q0, q1, rfl, rfl, HO, HB⟩ := hrel
    by_cases hlt : q < l.length
    · obtain ⟨ad, e, hx⟩ := Kd.at_int HR.out (q : Int) (by omega) (by omega)
      cases e
      replace hx := (HB.out.cell (World.block_lt_of_cell? _ _ hx)).trans hx
      obtain ⟨x, hxx⟩ : ∃ x, x = l.getD q 0 := ⟨_, rfl⟩
      rw [show rd l (q : Int) = x by rw [hxx]; simp [rd]] at hx
      rw [Int.toNat_natCast] at hx
      go_wp2_with (fail)
      have hxok := okd_get HOK.out BW_pos q
      rw [← hxx, BW_def] at hxok
      go_loopw [4, 6, 7] (fun v4 v6 v7 wr => ∃ (j y' : Nat) (z : Int), j ≤ 8 ∧ y' + (8 * q + j) = L ∧ v4 = .int .i64 (y' : Int) ∧ v6 = .int .u64 z ∧ v7 = .int .i64 (j : Int) ∧ Aside0 (z = x / 256 ^ j) ∧ Aside0 (hp wr g = some (.cells (u8s (wrt xs L (le (l.take q) ++ byt x j))) tb (0, 0))) ∧ Aside0 (Below w0.heap.size w0 wr)) (fun _ _ v _ => 8 - (intOf v).toNat)
      case atStart => exact ⟨0, y, x, by omega, by omega, rfl, by rw [hxx]; simp [List.getD, hlt], rfl, ⟨by simp⟩, ⟨by rw [byt, List.append_nil]; exact HO.out⟩, HB⟩
      case round =>
        clear HO HB
        obtain ⟨j, y', z, j0, j1, rfl, rfl, rfl, HZ, HO, HB⟩ := hrel
        by_cases hj : j < 8
        · obtain ⟨y2, rfl⟩ : ∃ y2, y' = y2 + 1 := ⟨y' - 1, by omega⟩
          have hbl : (le (l.take q) ++ byt x j).length = 8 * q + j := by rw [List.length_append, le_len, byt_len, List.length_take]; omega
          have hwl := wrt_len xs L (le (l.take q) ++ byt x j) (by omega) hL
          have hc := (blk_cell HO.out y2).trans (u8s_get _ y2 (by omega))
          have hf := blk_frozen HO.out y2
          have HO2 : Aside0 (hp (wr.setCell ⟨g, y2, none⟩ (.int .u8 (z % 256))) g = some (.cells (u8s (wrt xs L (le (l.take q) ++ byt x (j + 1)))) tb (0, 0))) := by
            constructor
            rw [hp_here _ _ _ _ _ rfl, HO.out]
            simp only [Option.map_some, setObj_cells, u8s_set]
            rw [show y2 = L - (le (l.take q) ++ byt x j).length - 1 by omega, wrt_set _ _ _ _ (by omega) hL, byt, List.append_assoc, HZ.out]
          have HB2 := Aside0.mk (HB.out.setCell (p := ⟨g, y2, none⟩) hg (.int .u8 (z % 256)))
          have HZ2 := Aside0.mk (show z / 256 = x / 256 ^ (j + 1) by rw [HZ.out, Int.pow_succ, Int.ediv_ediv_of_nonneg (Int.le_of_lt (Int.pow_pos (by omega)))])
          have hz0 : 0 ≤ z := by rw [HZ.out]; exact Int.ediv_nonneg hxok.1 (Int.le_of_lt (Int.pow_pos (by omega)))
          clear HO HB HZ hbl hwl
          go_wp2_with (fail)
          go_roundw
          case rel => first | exact ⟨j + 1, y2, z / 256, by omega, by omega, rfl, rfl, by simp, HZ2, HO2, HB2⟩ | fail
          case measure => simp [intOf]; omega
        · obtain rfl : j = 8 := by omega
          have HO2 : Aside0 (hp wr g = some (.cells (u8s (wrt xs L (le (l.take (q + 1))))) tb (0, 0))) := by
            constructor
            rw [HO.out, List.take_succ_eq_append_getElem (by omega), le_append]
            simp only [le, List.append_nil]
            rw [show l[q] = x by rw [hxx]; simp [List.getD, hlt]]
          clear HO hxx
          go_wp2_with (fail)
          go_roundw
          case rel => first | exact ⟨q + 1, y', by omega, by omega, by simp, rfl, HO2, HB⟩ | fail
          case measure => simp [intOf]; omega
    · obtain rfl : q = l.length := by omega
      have HO2 : Aside0 (hp wr g = some (.cells (u8s (wrt xs L (le l))) tb (0, 0))) := by
        have := HO.out
        rw [List.take_length] at this
        exact ⟨this⟩
      have hll := le_len l
      have hwl := wrt_len xs L (le l) (by omega) hL
      clear HO
      go_wp2_with (fail)
      go_loop [4] (fun v4 => ∃ k : Nat, k ≤ (le l).length ∧ v4 = .int .i64 ((L - k : Nat) : Int) ∧ Aside0 (strip ((le l).take k) = strip (le l))) (fun i => L - (intOf i).toNat)
      case atStart => exact ⟨(le l).length, by omega, by congr 2; omega, ⟨by rw [List.take_length]⟩⟩
      case round =>
        obtain ⟨k, k0, rfl, HS⟩ := hrel
        by_cases hk : k = 0
        · subst hk
          have HS2 := Aside0.mk (show (strip (le l)).length = 0 by rw [← HS.out]; rfl)
          go_wp2_with (fail)
          go_ret
          exact ⟨by rw [HS2.out]; rfl, HO2.out, HB.out⟩
        · obtain ⟨k', rfl⟩ : ∃ k', k = k' + 1 := ⟨k - 1, by omega⟩
          obtain ⟨i, hi⟩ : ∃ i, L - (k' + 1) = i := ⟨_, rfl⟩
          have hc := (blk_cell HO2.out i).trans (u8s_get _ i (by omega))
          have e1 := wrt_get xs L (le l) k' (by omega) hL (by omega)
          rw [show L - 1 - k' = i by omega] at e1
          rw [e1] at hc
          obtain ⟨x, hx⟩ : ∃ x, x = (le l).getD k' 0 := ⟨_, rfl⟩
          rw [← hx] at hc
          rw [hi]
          by_cases hx0 : x = 0
          · have HS2 := Aside0.mk (show strip ((le l).take k') = strip (le l) by rw [← HS.out]; exact (strip_take _ _ (by omega) (by rw [← hx]; exact hx0)).symm)
            have hb : (x == 0) = true := by rw [beq_iff_eq]; exact hx0
            clear hx e1 hx0 HS
            go_wp2_with (fail)
            go_round
            case rel => first | exact ⟨k', by omega, by congr 1; omega, HS2⟩ | fail
            case measure => simp [intOf]; omega
          · have HS2 := Aside0.mk (show (strip (le l)).length = k' + 1 by rw [← HS.out, strip_stop _ _ (by omega) (by rw [← hx]; exact hx0), List.length_take]; omega)
            have hb : (x == 0) = false := by rw [beq_eq_false_iff_ne]; exact hx0
            clear hx e1 hx0 HS
            go_wp2_with (fail)
            go_ret
            exact ⟨by rw [HS2.out, hi]; rfl, HO2.out, HB.out⟩
end Go.Proofs.YtglikgjaobedbaaDoor.Sp
end

/-! ## SetBytes -/
section
namespace Go.Proofs.YtglikgjaobedbaaDoor.Sp
open Go.RowKit Go.Proofs.YtglikgjaobedbaaDoorW.PrintWords Go.Proofs.YtglikgjaobedbaaDoorW.PrintLast Go.Proofs.YtglikgjaobedbaaDoorW.PrintMore Go.Proofs.YtglikgjaobedbaaDoor.Dig
set_option linter.unusedVariables false
set_option linter.unusedSimpArgs false
def b32 (l : List Int) : Int := l.getD 3 0 + (l.getD 2 0 * 256 + (l.getD 1 0 * 65536 + l.getD 0 0 * 16777216))
theorem b32_lt {l : List Int} (h : okd 256 l) : 0 ≤ b32 l ∧ b32 l < 4294967296 := by
  have h0 := okd_get h (by omega) 0
  have h1 := okd_get h (by omega) 1
  have h2 := okd_get h (by omega) 2
  have h3 := okd_get h (by omega) 3
  unfold b32
  omega
theorem be32_c (A : Option Addr) (c : Nat) (l : List Int) (w : World) (hC : Kd.C (Kd.int .u8) w A l.length l) (hlc : l.length ≤ c) (h4 : 4 ≤ l.length) (hok : okd 256 l) :
    Calls Tryd.prog 85 #[.slice A l.length c] w fun e w' => e = .returned (.int .u32 (b32 l)) ∧ Below w.heap.size w w' := by
  refine (bigall_beUint32.calls A c l (b32 l) w hC hlc ?_).mono ?_
  · have h0 := okd_get hok (by omega) 0
    have h1 := okd_get hok (by omega) 1
    have h2 := okd_get hok (by omega) 2
    have h3 := okd_get hok (by omega) 3
    unfold bigall_beUint32.f
    rw [if_pos (by omega), if_pos (by omega), if_pos (by omega), if_pos (by omega)]
    simp only [rd]
    unfold b32
    simp only [show (3 : Int).toNat = 3 from rfl, show (2 : Int).toNat = 2 from rfl, show (1 : Int).toNat = 1 from rfl, show (0 : Int).toNat = 0 from rfl]
    generalize l.getD 0 0 = a at *
    generalize l.getD 1 0 = b at *
    generalize l.getD 2 0 = e at *
    generalize l.getD 3 0 = f at *
    rw [show f % 4294967296 = f by omega, show e % 4294967296 * 256 % 4294967296 = e * 256 by omega, show b % 4294967296 * 65536 % 4294967296 = b * 65536 by omega, show a % 4294967296 * 16777216 % 4294967296 = a * 16777216 by omega,
      u32_or8 f (e * 256) h3.1 h3.2 (by omega) (by omega) (by omega), u32_or16 (f + e * 256) (b * 65536) (by omega) (by omega) (by omega) (by omega) (by omega), u32_or24 (f + e * 256 + b * 65536) (a * 16777216) (by omega) (by omega) (by omega) (by omega) (by omega)]
    congr 1
    omega
  · rintro e w' ⟨rfl, h⟩
    exact ⟨rfl, h.below⟩
/-! ### beUint64 -/
def b64 (l : List Int) : Int := b32 (l.drop 4) + b32 l * 4294967296
theorem be32_8 (ad : Addr) (c : Nat) (l : List Int) (w : World) (hC : Kd.C (Kd.int .u8) w (some ad) l.length l) (hlc : l.length ≤ c) (h8 : l.length = 8) (hok : okd 256 l) :
    Calls Tryd.prog 85 #[.slice (some ad) 8 c] w fun e w' => e = .returned (.int .u32 (b32 l)) ∧ Below w.heap.size w w' := by
  have := be32_c (some ad) c l w hC hlc (by omega) hok
  rw [h8] at this
  exact this
theorem be32_4 (ad : Addr) (c : Nat) (l : List Int) (w : World) (hC : Kd.C (Kd.int .u8) w (some ad) l.length l) (hlc : l.length ≤ c) (h8 : l.length = 8) (hok : okd 256 l) :
    Calls Tryd.prog 85 #[.slice (some ⟨ad.block, ad.off + 4, none⟩) 4 (c - 4)] w fun e w' => e = .returned (.int .u32 (b32 (l.drop 4))) ∧ Below w.heap.size w w' := by
  have h1 := C_sub hC 4 4 (by omega)
  have e1 : (l.drop 4).take 4 = l.drop 4 := List.take_of_length_le (by simp; omega)
  have e2 : (l.drop 4).length = 4 := by simp; omega
  rw [e1] at h1
  have := be32_c (some (ad.add 4)) (c - 4) (l.drop 4) w h1 (by omega) (by omega) (okd_drop hok 4)
  rw [e2] at this
  exact this
set_option maxHeartbeats 1600000 in
set_option maxRecDepth 100000 in
theorem be64_c (ad : Addr) (c : Nat) (l : List Int) (w : World) (hC : Kd.C (Kd.int .u8) w (some ad) l.length l) (hlc : l.length ≤ c) (h8 : l.length = 8) (hok : okd 256 l) :
    Calls Tryd.prog 111 #[.slice (some ad) l.length c] w fun e w' => e = .returned (.int .u64 (b64 l)) ∧ Below w.heap.size w w' := by
  have HC := Aside0.mk hC
  have hx := Kd.at_int hC 7 (by omega) (by omega)
  have h1 := b32_lt hok
  have h2 := b32_lt (okd_drop hok 4)
  have HOK := Aside0.mk hok
  have hl4 : (l.drop 4).length = l.length - 4 := by simp
  obtain ⟨x, hxx⟩ : ∃ x, x = b32 l := ⟨_, rfl⟩
  obtain ⟨y, hyy⟩ : ∃ y, y = b32 (l.drop 4) := ⟨_, rfl⟩
  rw [show b64 l = y + x * 4294967296 by rw [hxx, hyy]; rfl]
  rw [← hxx] at h1
  rw [← hyy] at h2
  have HXX := Aside0.mk hxx
  have HYY := Aside0.mk hyy
  have HLC := Aside0.mk hlc
  have hc4 : ¬ c = 4 := by omega
  obtain ⟨ad', e, hx⟩ := hx
  cases e
  have hx7 : w.cell? ⟨ad.block, ad.off + 7, none⟩ = some (.int .u8 (rd l 7)) := hx
  clear hC hok hx hxx hyy hl4
  go_enter Tryd.func111, Tryd.ntmps111
  go_wp2_with ((fail_if_success go_at_call 85); go_in)
  have HC0 := Aside0.mk (Kd.C_below HC.out (below_drew (Below.refl w.heap.size w)))
  refine start_ (n := 10) (S := fun w' => True) (ds := []) #[false, false, false, false, false, false, false, false, false, false] (by kernel_rfl) rfl rfl trivial (fun hHeld => ?_)
  refine pure_ (i := 0) (N := some 6) (v := ?_) (a' := ?_) #[true, false, false, false, false, false, false, false, false, false] rfl rfl (by kernel_rfl) (fun _ _ _ h => h) (Or.inl ⟨by rfl, ?_⟩) ?_ ?_
  rotate_left
  · intro w'
    go_simp
    with_reducible rfl
  rotate_left
  · simp only [Act.put, List.setIfInBounds_toArray, List.set_cons_zero, List.set_cons_succ, i64_w, i32_w]
    rfl
  refine pure_ (i := 4) (N := some 10) (v := ?_) (a' := ?_) #[true, false, false, false, true, false, false, false, false, false] rfl rfl (by kernel_rfl) (fun _ _ _ h => h) (Or.inl ⟨by rfl, ?_⟩) ?_ ?_
  rotate_left
  · intro w'
    go_simp
    with_reducible rfl
  rotate_left
  · simp only [Act.put, List.setIfInBounds_toArray, List.set_cons_zero, List.set_cons_succ, i64_w, i32_w]
    rfl
  refine pure_ (i := 5) (N := some 11) (v := ?_) (a' := ?_) #[true, false, false, false, true, true, false, false, false, false] rfl rfl (by kernel_rfl) (fun _ _ _ h => h) (Or.inl ⟨by rfl, ?_⟩) ?_ ?_
  rotate_left
  · intro w'
    go_simp
    with_reducible rfl
  rotate_left
  · simp only [Act.put, List.setIfInBounds_toArray, List.set_cons_zero, List.set_cons_succ, i64_w, i32_w]
    rfl
  refine one_ (i := 1) (N := some 7) #[true, true, false, false, true, true, false, false, false, false] rfl rfl (by kernel_rfl) (by decide) (fun K hK => ?_)
  refine goes_ Tryd.func85 (by kernel_rfl) rfl #[.slice (some ad) 8 c] (by rfl) rfl rfl (by simp only [List.map_toArray, List.map_cons, List.map_nil]; rfl) ?_
  with_reducible refine (be32_8 ad c l _ HC0.out HLC.out h8 HOK.out).mono ?_
  rintro e w1 ⟨rfl, hb1⟩
  refine ⟨_, rfl, ?_⟩
  rw [← HXX.out]
  have HC1 := Aside0.mk (Kd.C_below HC0.out hb1)
  have HB := Aside0.mk (below_step (below_drew (Below.refl w.heap.size w)) hb1)
  refine hK.out _ _ trivial (fun hHeld => ?_)
  clear hK K
  refine norm_ (a' := ?_) ?_ ?_
  rotate_left
  · show Act.put _ (some 7) _ = _
    simp only [Act.put, List.setIfInBounds_toArray, List.set_cons_zero, List.set_cons_succ, i64_w, i32_w]
    rfl
  refine pure_ (i := 2) (N := some 8) (v := ?_) (a' := ?_) #[true, true, true, false, true, true, false, false, false, false] rfl rfl (by kernel_rfl) (fun _ _ _ h => h) (Or.inl ⟨by rfl, ?_⟩) ?_ ?_
  rotate_left
  · intro w'
    go_simp
    with_reducible rfl
  rotate_left
  · simp only [Act.put, List.setIfInBounds_toArray, List.set_cons_zero, List.set_cons_succ, i64_w, i32_w]
    rfl
  refine pure_ (i := 3) (N := some 9) (v := ?_) (a' := ?_) #[true, true, true, true, true, true, false, false, false, false] rfl rfl (by kernel_rfl) (fun _ _ _ h => h) (Or.inl ⟨by rfl, ?_⟩) ?_ ?_
  rotate_left
  · intro w'
    go_simp
    with_reducible rfl
  rotate_left
  · simp only [Act.put, List.setIfInBounds_toArray, List.set_cons_zero, List.set_cons_succ, i64_w, i32_w]
    rfl
  refine one_ (i := 6) (N := some 12) #[true, true, true, true, true, true, true, false, false, false] rfl rfl (by kernel_rfl) (by decide) (fun K hK => ?_)
  refine goes_ Tryd.func85 (by kernel_rfl) rfl #[.slice (some ⟨ad.block, ad.off + 4, none⟩) 4 (c - 4)] (by rfl) rfl rfl (by simp only [List.map_toArray, List.map_cons, List.map_nil]; rfl) ?_
  with_reducible refine (be32_4 ad c l _ HC1.out HLC.out h8 HOK.out).mono ?_
  rintro e w2 ⟨rfl, hb2⟩
  refine ⟨_, rfl, ?_⟩
  rw [← HYY.out]
  have HB2 := Aside0.mk (below_step HB.out hb2)
  refine hK.out _ _ trivial (fun hHeld => ?_)
  clear hK K
  refine norm_ (a' := ?_) ?_ ?_
  rotate_left
  · show Act.put _ (some 12) _ = _
    simp only [Act.put, List.setIfInBounds_toArray, List.set_cons_zero, List.set_cons_succ, i64_w, i32_w]
    rfl
  refine pure_ (i := 7) (N := some 13) (v := ?_) (a' := ?_) #[true, true, true, true, true, true, true, true, false, false] rfl rfl (by kernel_rfl) (fun _ _ _ h => h) (Or.inl ⟨by rfl, ?_⟩) ?_ ?_
  rotate_left
  · intro w'
    go_simp
    with_reducible rfl
  rotate_left
  · simp only [Act.put, List.setIfInBounds_toArray, List.set_cons_zero, List.set_cons_succ, i64_w, i32_w]
    rfl
  refine pure_ (i := 8) (N := some 14) (v := ?_) (a' := ?_) #[true, true, true, true, true, true, true, true, true, false] rfl rfl (by kernel_rfl) (fun _ _ _ h => h) (Or.inl ⟨by rfl, ?_⟩) ?_ ?_
  rotate_left
  · intro w'
    go_simp
    with_reducible rfl
  rotate_left
  · simp only [Act.put, List.setIfInBounds_toArray, List.set_cons_zero, List.set_cons_succ, i64_w, i32_w]
    rfl
  refine pure_ (i := 9) (N := some 2) (v := ?_) (a' := ?_) #[true, true, true, true, true, true, true, true, true, true] rfl rfl (by kernel_rfl) (fun _ _ _ h => h) (Or.inl ⟨by rfl, ?_⟩) ?_ ?_
  rotate_left
  · intro w'
    go_simp
    with_reducible rfl
  rotate_left
  · simp only [Act.put, List.setIfInBounds_toArray, List.set_cons_zero, List.set_cons_succ, i64_w, i32_w]
    rfl
  refine done_ (by kernel_rfl) ?_
  go_wp2_with (fail)
  go_ret
  have e0 : bits .or .u64 (IntKind.u64.wrap (IntKind.u64.wrap x * 4294967296)) (IntKind.u64.wrap y) = y + x * 4294967296 := by
    rw [wrap_u64 h1.1 (by omega), wrap_u64 h2.1 (by omega), wrap_u64 (by omega) (by omega), bits_join .u64 64 (by decide) (fun n h0 h1 => wrap_u64 h0 (by simpa using h1)) 32 (x * 4294967296) y (by omega) (by simp) (by simp; omega) h2.1 (by simp; omega) (by simp; omega)]
    omega
  exact ⟨by rw [← e0]; rfl, HB2.out⟩
/-- Eight bytes, the highest first, as a number. -/
theorem b64_ev (l : List Int) (h8 : l.length = 8) : b64 l = ev 256 l.reverse := by
  match l, h8 with
  | [a, b, c, d, e, f, g, h], _ =>
    simp only [b64, b32, List.drop_succ_cons, List.drop_zero, List.reverse_cons, List.reverse_nil, List.nil_append, List.cons_append, ev_cons, ev_nil, List.getD_cons_zero, List.getD_cons_succ]
    omega
/-- The words of little-endian bytes. -/
def wd (rb : List Int) (k : Nat) : Int := ev 256 ((rb.drop (8 * k)).take 8)
def wds (rb : List Int) (k : Nat) : List Int := (List.range k).map (wd rb)
theorem wds_len (rb : List Int) (k : Nat) : (wds rb k).length = k := by simp [wds]
theorem wds_succ (rb : List Int) (k : Nat) : wds rb (k + 1) = wds rb k ++ [wd rb k] := by simp [wds, List.range_succ]
theorem wd_ok {rb : List Int} (h : okd 256 rb) (k : Nat) : 0 ≤ wd rb k ∧ wd rb k < BW := by
  have h1 := okd_take (okd_drop h (8 * k)) 8
  refine ⟨ev_nonneg h1 (by omega), ?_⟩
  have h2 := ev_lt h1 (by omega)
  have h3 : (256 : Int) ^ ((rb.drop (8 * k)).take 8).length ≤ 256 ^ 8 := pow_mono (by omega) (by simp; omega)
  have h4 : (256 : Int) ^ 8 = BW := by rw [BW_def]; rfl
  unfold wd
  omega
theorem wds_ok {rb : List Int} (h : okd 256 rb) (k : Nat) : okd BW (wds rb k) := by
  intro d hd
  simp [wds] at hd
  obtain ⟨i, _, rfl⟩ := hd
  exact wd_ok h i
theorem wds_ev (rb : List Int) (k : Nat) (hk : 8 * k ≤ rb.length + 7) : ev BW (wds rb k) = ev 256 (rb.take (8 * k)) := by
  induction k with
  | zero => simp [wds, ev_nil]
  | succ k ih =>
    have e : rb.take (8 * (k + 1)) = rb.take (8 * k) ++ (rb.drop (8 * k)).take 8 := by
      rw [show 8 * (k + 1) = 8 * k + 8 by omega, List.take_add]
    rw [wds_succ, ev_snoc, wds_len, ih (by omega), e, ev_append, List.length_take, Nat.min_eq_left (by omega), Int.pow_mul, show (256 : Int) ^ 8 = BW from by rw [BW_def]; rfl]
    rfl
theorem rev_sub (l : List Int) (i n : Nat) (h : i + n ≤ l.length) : ((l.drop i).take n).reverse = (l.reverse.drop (l.length - i - n)).take n := by
  apply List.ext_getElem
  · simp; omega
  · intro j h1 h2
    simp [List.getElem_reverse, List.getElem_take, List.getElem_drop]
    congr 1
    simp at h1 h2
    omega
theorem be64_w (ad : Addr) (c : Nat) (bs rb : List Int) (i k : Nat) (w : World) (hC : Kd.C (Kd.int .u8) w (some ad) bs.length bs) (hlc : bs.length ≤ c) (hik : i + 8 + 8 * k = bs.length) (hok : okd 256 bs) (hrb : rb = bs.reverse) :
    Calls Tryd.prog 111 #[.slice (some (ad.add i)) 8 (c - i)] w fun e w' => e = .returned (.int .u64 (wd rb k)) ∧ Below w.heap.size w w' := by
  have h1 := C_sub hC i 8 (by omega)
  have h2 : ((bs.drop i).take 8).length = 8 := by simp; omega
  have h3 := be64_c (ad.add i) (c - i) ((bs.drop i).take 8) w h1 (by omega) h2 (okd_take (okd_drop hok i) 8)
  rw [b64_ev _ h2, rev_sub bs i 8 (by omega), h2, ← hrb, show bs.length - i - 8 = 8 * k by omega] at h3
  exact h3
theorem wds_set (rb : List Int) (k m : Nat) (h : 0 < m) : (wds rb k ++ List.replicate m 0).set k (wd rb k) = wds rb (k + 1) ++ List.replicate (m - 1) 0 := by
  obtain ⟨m', rfl⟩ : ∃ m', m = m' + 1 := ⟨m - 1, by omega⟩
  rw [List.set_append_right _ _ (by rw [wds_len]; omega), wds_len, Nat.sub_self, List.replicate_succ, List.set_cons_zero, wds_succ]
  simp
theorem put8 (d b : Int) (t : Nat) (ht : t < 8) (h0 : 0 ≤ d) (h1 : d < 256 ^ t) (hb0 : 0 ≤ b) (hb1 : b < 256) :
    Go.bits .or .u64 d (IntKind.u64.wrap (b * 2 ^ (8 * t))) = d + 256 ^ t * b := by
  have e : (256 : Int) ^ t = 2 ^ (8 * t) := by rw [Int.pow_mul]; rfl
  rw [e] at h1 ⊢
  have hb : (2 : Int) ^ (8 * t) ≤ 2 ^ 56 := pow_mono (by omega) (by omega)
  have hp : (0 : Int) < 2 ^ (8 * t) := Int.pow_pos (by omega)
  have hm : b * 2 ^ (8 * t) ≤ 255 * 2 ^ (8 * t) := Int.mul_le_mul_of_nonneg_right (by omega) (Int.le_of_lt hp)
  have hm0 : 0 ≤ b * 2 ^ (8 * t) := Int.mul_nonneg hb0 (Int.le_of_lt hp)
  have c56 : (2 : Int) ^ 56 = 72057594037927936 := rfl
  rw [wrap_u64 hm0 (by omega), or64_join (8 * t) _ _ hm0 (Int.mul_emod_left _ _) (by omega) h0 h1 (by omega)]
  rw [Int.mul_comm b]
theorem fin_wds (rb : List Int) (n cc g : Nat) (w : World) (h : hp w g = some (.cells (u64s (wds rb n ++ List.replicate (cc - n) 0)) 139 (0, 0))) (hn : n ≤ cc) (hcc : cc ≤ 1000000000) (hok : okd 256 rb) (hr : rb.length ≤ 8 * n) (hr2 : 8 * n ≤ rb.length + 7) :
    Kd.C (Kd.int .u64) w (some ⟨g, 0, none⟩) (wds rb n).length (wds rb n) ∧ Wd w (.slice (some ⟨g, 0, none⟩) (strip (wds rb n)).length cc) (ev 256 rb) := by
  have hC : Kd.C (Kd.int .u64) w (some ⟨g, 0, none⟩) (wds rb n).length (wds rb n) := by
    refine blk_C _ h 0 (by rw [wds_len]; omega) (fun i hi => ?_)
    rw [Nat.zero_add, u64s_get _ i (by rw [List.length_append]; omega)]
    congr 2
    simp only [List.getD_eq_getElem?_getD]
    rw [List.getElem?_append_left hi]
  refine ⟨hC, ?_⟩
  have h1 := strip_wd hC (c := cc) (by rw [wds_len]; exact hn) (wds_ok hok n)
  rw [wds_ev _ _ hr2, List.take_of_length_le hr] at h1
  exact h1
/-! ### setBytes -/
set_option maxHeartbeats 1600000 in
set_option maxRecDepth 100000 in
theorem setBytes_c (ad : Addr) (c : Nat) (bs : List Int) (w : World) (hC : Kd.C (Kd.int .u8) w (some ad) bs.length bs) (hlc : bs.length ≤ c) (h0 : 0 < bs.length) (hbig : bs.length ≤ 1000000) (hok : okd 256 bs) :
    Calls Tryd.prog 86 #[.slice none 0 0, .slice (some ad) bs.length c] w fun e w' => ∃ A m c, e = .returned (.slice A m c) ∧ Wd w' (.slice A m c) (ev 256 bs.reverse) ∧ Below w.heap.size w w' := by
  have HC := Aside0.mk hC
  have HOK := Aside0.mk hok
  clear hC hok
  obtain ⟨rb, hrb⟩ : ∃ rb, rb = bs.reverse := ⟨_, rfl⟩
  have HRB := Aside0.mk hrb
  have hrl : rb.length = bs.length := by rw [hrb]; simp
  have HOK2 : Aside0 (okd 256 rb) := ⟨by rw [hrb]; exact fun d hd => HOK.out d (List.mem_reverse.1 hd)⟩
  rw [← hrb]
  clear hrb
  go_enter Tryd.func86, Tryd.ntmps86
  go_wp2_with ((fail_if_success go_at_call 98); (fail_if_success go_at_call 111); go_in)
  refine (make_nil _ (by omega) (by omega) _).mono ?_
  rintro e w1 ⟨cc, hc1, hc2, rfl, rfl⟩
  obtain ⟨n, hn⟩ : ∃ n, n = (((bs.length : Int) + 8 - 1) / 8).toNat := ⟨_, rfl⟩
  rw [← hn] at hc1 hc2 ⊢
  have hn1 : bs.length ≤ 8 * n := by omega
  have hn2 : 8 * n ≤ bs.length + 7 := by omega
  clear hn
  go_wp2_with ((fail_if_success go_at_call 98); (fail_if_success go_at_call 111); (fail_if_success go_at_call 112); go_in)
  go_loopw [5, 6] (fun v5 v6 wr => ∃ (i k : Nat), i + 8 * k = bs.length ∧ v5 = .int .i64 (i : Int) ∧ v6 = .int .i64 (k : Int) ∧ Aside0 (hp wr w.heap.size = some (.cells (u64s (wds rb k ++ List.replicate (cc - k) 0)) 139 (0, 0))) ∧ Aside0 (Below w.heap.size w wr)) (fun v _ _ => (intOf v).toNat)
  case atStart => exact ⟨bs.length, 0, by omega, rfl, rfl, ⟨by simp [wds, hp_new]⟩, ⟨below_alloc (Below.refl _ _) _⟩⟩
  case round =>
    obtain ⟨i, k, hik, rfl, rfl, HO, HB⟩ := hrel
    by_cases hi : 8 ≤ i
    · obtain ⟨i2, rfl⟩ : ∃ i2, i = i2 + 8 := ⟨i - 8, by omega⟩
      go_wp2_with ((fail_if_success go_at_call 98); (fail_if_success go_at_call 111); (fail_if_success go_at_call 112); go_in)
      refine (be64_w ad c bs rb i2 k _ (Kd.C_below HC.out HB.out) hlc hik HOK.out HRB.out).mono ?_
      rintro e w2 ⟨rfl, hb⟩
      have ho := hp_below HO.out hb
      have hlen : (wds rb k ++ List.replicate (cc - k) 0).length = cc := by simp [wds_len]; omega
      have hc := (blk_cell ho k).trans (u64s_get _ k (by omega))
      have hf := blk_frozen ho k
      have HO2 : Aside0 (hp (w2.setCell ⟨w.heap.size, k, none⟩ (.int .u64 (wd rb k))) w.heap.size = some (.cells (u64s (wds rb (k + 1) ++ List.replicate (cc - (k + 1)) 0)) 139 (0, 0))) := by
        constructor
        rw [hp_here _ _ _ _ _ rfl, ho]
        simp only [Option.map_some, setObj_cells, u64s_set]
        rw [wds_set _ _ _ (by omega)]
        rfl
      have HB2 := Aside0.mk ((below_step HB.out hb).setCell (p := ⟨w.heap.size, k, none⟩) (Nat.le_refl _) (.int .u64 (wd rb k)))
      have hkn : k < n := by omega
      clear HO HB hb ho hlen
      go_wp2_with ((fail_if_success go_at_call 98); (fail_if_success go_at_call 111); (fail_if_success go_at_call 112); go_in)
      go_roundw
      case rel => first | exact ⟨i2, k + 1, by omega, rfl, by simp, HO2, HB2⟩ | fail
      case measure => simp [intOf]; omega
    · by_cases hi0 : i = 0
      · subst hi0
        obtain rfl : k = n := by omega
        have hH := fin_wds rb k cc w.heap.size wr HO.out hc1 (by omega) HOK2.out (by omega) (by omega)
        have HH := Aside0.mk hH
        clear HO hH
        go_wp2_with ((fail_if_success go_at_call 98); (fail_if_success go_at_call 111); (fail_if_success go_at_call 112); go_in)
        refine (norm_w _ cc (wds rb k) k _ HH.out.1 (wds_len _ _) hc1 (by omega)).mono ?_
        rintro e w2 ⟨rfl, rfl⟩
        go_wp2_with ((fail_if_success go_at_call 98); (fail_if_success go_at_call 111); (fail_if_success go_at_call 112); go_in)
        go_ret
        exact ⟨_, _, _, rfl, HH.out.2, HB.out⟩
      · have hn : n = k + 1 := by omega
        subst hn
        go_wp2_with ((fail_if_success go_at_call 98); (fail_if_success go_at_call 111); (fail_if_success go_at_call 112); go_in)
        go_loop [5, 7, 8] (fun v5 v7 v8 => ∃ (i' t : Nat) (d : Int), i' + t = i ∧ v5 = .int .i64 (i' : Int) ∧ v7 = .int .u64 d ∧ v8 = .int .u64 ((8 * t : Nat) : Int) ∧ Aside0 (d = ev 256 ((rb.drop (8 * k)).take t))) (fun v _ _ => (intOf v).toNat)
        case atStart => exact ⟨i, 0, 0, by omega, rfl, rfl, rfl, ⟨by simp [ev_nil]⟩⟩
        case round =>
          obtain ⟨i', t, d, hit, rfl, rfl, rfl, HD⟩ := hrel
          by_cases hi' : i' = 0
          · subst hi'
            have HD2 : Aside0 (d = wd rb k) := ⟨by rw [HD.out]; unfold wd; rw [List.take_of_length_le (by simp; omega), List.take_of_length_le (by simp; omega)]⟩
            have hlen : (wds rb k ++ List.replicate (cc - k) 0).length = cc := by simp [wds_len]; omega
            have hc := (blk_cell HO.out k).trans (u64s_get _ k (by omega))
            have hf := blk_frozen HO.out k
            have HO2 : hp (wr.setCell ⟨w.heap.size, k, none⟩ (.int .u64 d)) w.heap.size = some (.cells (u64s (wds rb (k + 1) ++ List.replicate (cc - (k + 1)) 0)) 139 (0, 0)) := by
              rw [hp_here _ _ _ _ _ rfl, HO.out]
              simp only [Option.map_some, setObj_cells, u64s_set]
              rw [HD2.out, wds_set _ _ _ (by omega)]
              rfl
            have HB2 := Aside0.mk (HB.out.setCell (p := ⟨w.heap.size, k, none⟩) (Nat.le_refl _) (.int .u64 d))
            have HH := Aside0.mk (fin_wds rb (k + 1) cc w.heap.size _ HO2 hc1 (by omega) HOK2.out (by omega) (by omega))
            clear HO HB HO2 HD HD2 hlen
            go_wp2_with ((fail_if_success go_at_call 98); (fail_if_success go_at_call 111); (fail_if_success go_at_call 112); go_in)
            refine (norm_w _ cc (wds rb (k + 1)) (k + 1) _ HH.out.1 (wds_len _ _) hc1 (by omega)).mono ?_
            rintro e w2 ⟨rfl, rfl⟩
            go_wp2_with ((fail_if_success go_at_call 98); (fail_if_success go_at_call 111); (fail_if_success go_at_call 112); go_in)
            go_ret
            exact ⟨_, _, _, rfl, HH.out.2, HB2.out⟩
          · obtain ⟨i2, rfl⟩ : ∃ i2, i' = i2 + 1 := ⟨i' - 1, by omega⟩
            obtain ⟨_, e, hx⟩ := Kd.at_int HC.out (i2 : Int) (by omega) (by omega)
            cases e
            replace hx := (HB.out.cell (World.block_lt_of_cell? _ _ hx)).trans hx
            have hbt : rd bs (i2 : Int) = (rb.drop (8 * k)).getD t 0 := by
              rw [HRB.out]
              simp only [rd, Int.toNat_natCast, List.getD_eq_getElem?_getD, List.getElem?_drop]
              rw [List.getElem?_reverse (by omega)]
              congr 2
              omega
            obtain ⟨b, hb⟩ : ∃ b, b = (rb.drop (8 * k)).getD t 0 := ⟨_, rfl⟩
            rw [hbt, ← hb, Int.toNat_natCast] at hx
            have hokd := okd_drop HOK2.out (8 * k)
            have hb0 := okd_get hokd (by omega) t
            rw [← hb] at hb0
            have htl : ((rb.drop (8 * k)).take t).length = t := by simp; omega
            have hd0 := ev_nonneg (okd_take hokd t) (by omega)
            have hd1 := ev_lt (okd_take hokd t) (by omega)
            rw [htl, ← HD.out] at hd1
            rw [← HD.out] at hd0
            have hput := put8 d b t (by omega) hd0 hd1 hb0.1 hb0.2
            have HD2 : Aside0 (d + 256 ^ t * b = ev 256 ((rb.drop (8 * k)).take (t + 1))) := ⟨by rw [ev_take_succ _ _ _ (by simp; omega), ← hb, ← HD.out]⟩
            clear HD hbt hb hokd htl hd0 hd1
            have HP := Aside0.mk hput
            clear hput
            go_wp2_with ((fail_if_success go_at_call 98); (fail_if_success go_at_call 111); (fail_if_success go_at_call 112); go_in)
            go_round
            case rel => first | exact ⟨i2, t + 1, _, by omega, rfl, rfl, by congr 1, ⟨by rw [HP.out]; exact HD2.out⟩⟩ | fail
            case measure => simp [intOf]
end Go.Proofs.YtglikgjaobedbaaDoor.Sp
end
