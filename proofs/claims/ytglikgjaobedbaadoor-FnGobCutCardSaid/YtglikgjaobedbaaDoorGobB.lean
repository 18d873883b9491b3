/-
  CONTRACTS: the words of a nat as bytes behind the head of a row (bytes), bytes as words with their block (setBytes); the low halves in four bytes.
-/
import Derived.Test.YtglikgjaobedbaaDoorGobG
namespace Go.Proofs.YtglikgjaobedbaaDoor.Sp
open Go.RowKit Go.Proofs.YtglikgjaobedbaaDoorW.PrintWords Go.Proofs.YtglikgjaobedbaaDoorW.PrintLast Go.Proofs.YtglikgjaobedbaaDoorW.PrintMore Go.Proofs.YtglikgjaobedbaaDoor.Dig
set_option linter.unusedVariables false
set_option linter.unusedSimpArgs false
theorem app_get {P : List Int} {o : Nat} (hP : P.length = o) (X : List Int) (i : Nat) : (P ++ X).getD (o + i) 0 = X.getD i 0 := by
  simp only [List.getD_eq_getElem?_getD]
  rw [List.getElem?_append_right (by omega), hP, Nat.add_sub_cancel_left]
theorem app_set {P : List Int} {o : Nat} (hP : P.length = o) (X : List Int) (i : Nat) (v : Int) : (P ++ X).set (o + i) v = P ++ X.set i v := by
  rw [List.set_append_right _ _ (by omega), hP, Nat.add_sub_cancel_left]
set_option maxHeartbeats 1600000 in
set_option maxRecDepth 100000 in
theorem bytesO_c (o : Nat) (P : List Int) (hP : P.length = o) (A : Option Addr) (m c : Nat) (l : List Int) (g L cb : Nat) (xs : List Int) (tb : TypeId) (w0 w : World) (h : Ws w0 (.slice A m c) l) (hB : Below w0.heap.size w0 w) (hg : w0.heap.size ≤ g) (hb : hp w g = some (.cells (u8s (P ++ xs)) tb (0, 0))) (hL : L ≤ xs.length) (h8 : 8 * l.length ≤ L) (hbig : L ≤ 1000000) :
    Calls Tryd.prog 83 #[.slice A m c, .slice (some ⟨g, o, none⟩) L cb] w fun e w' => e = .returned (.int .i64 ((L - (strip (le l)).length : Nat) : Int)) ∧ hp w' g = some (.cells (u8s (P ++ wrt xs L (le l))) tb (0, 0)) ∧ Below w0.heap.size w0 w' := by
  obtain ⟨A', c', e, h2, h3, h4⟩ := h
  injection e with e1 e2 e3
  subst e1 e2 e3
  have HR := Aside0.mk h3
  have HOK := Aside0.mk h4
  have HB0 := Aside0.mk hB
  have HG := Aside0.mk hb
  clear h3 h4 hB hb
  go_enter Tryd.func83, Tryd.ntmps83
  go_wp2_with (fail)
  go_loopw [4, 12] (fun v4 v12 wr => ∃ (q y : Nat), q ≤ l.length ∧ y + 8 * q = L ∧ v12 = .int .i64 (q : Int) ∧ v4 = .int .i64 (y : Int) ∧ Aside0 (hp wr g = some (.cells (u8s (P ++ wrt xs L (le (l.take q)))) tb (0, 0))) ∧ Aside0 (Below w0.heap.size w0 wr)) (fun _ v _ => l.length - (intOf v).toNat)
  case atStart => exact ⟨0, L, by omega, by omega, rfl, rfl, ⟨by rw [List.take_zero, le, wrt_nil]; exact HG.out⟩, HB0⟩
  case round =>
    obtain ⟨q, y, q0, q1, rfl, rfl, HO, HB⟩ := hrel
    by_cases hlt : q < l.length
    · obtain ⟨ad, e, hx⟩ := Kd.at_int HR.out (q : Int) (by omega) (by omega)
      cases e
      replace hx := (HB.out.cell (World.block_lt_of_cell? _ _ hx)).trans hx
      obtain ⟨x, hxx⟩ : ∃ x, x = l.getD q 0 := ⟨_, rfl⟩
      rw [show rd l (q : Int) = x by rw [hxx]; simp [rd]] at hx
      rw [Int.toNat_natCast] at hx
      go_wp2_with (fail)
      have hxok := okd_get HOK.out BW_pos q
      rw [← hxx, BW_def] at hxok
      go_loopw [4, 6, 7] (fun v4 v6 v7 wr => ∃ (j y' : Nat) (z : Int), j ≤ 8 ∧ y' + (8 * q + j) = L ∧ v4 = .int .i64 (y' : Int) ∧ v6 = .int .u64 z ∧ v7 = .int .i64 (j : Int) ∧ Aside0 (z = x / 256 ^ j) ∧ Aside0 (hp wr g = some (.cells (u8s (P ++ wrt xs L (le (l.take q) ++ byt x j))) tb (0, 0))) ∧ Aside0 (Below w0.heap.size w0 wr)) (fun _ _ v _ => 8 - (intOf v).toNat)
      case atStart => exact ⟨0, y, x, by omega, by omega, rfl, by rw [hxx]; simp [List.getD, hlt], rfl, ⟨by simp⟩, ⟨by rw [byt, List.append_nil]; exact HO.out⟩, HB⟩
      case round =>
        clear HO HB
        obtain ⟨j, y', z, j0, j1, rfl, rfl, rfl, HZ, HO, HB⟩ := hrel
        by_cases hj : j < 8
        · obtain ⟨y2, rfl⟩ : ∃ y2, y' = y2 + 1 := ⟨y' - 1, by omega⟩
          have hbl : (le (l.take q) ++ byt x j).length = 8 * q + j := by rw [List.length_append, le_len, byt_len, List.length_take]; omega
          have hwl := wrt_len xs L (le (l.take q) ++ byt x j) (by omega) hL
          have hc := (blk_cell HO.out (o + y2)).trans (u8s_get _ (o + y2) (by rw [List.length_append]; omega))
          have hf := blk_frozen HO.out (o + y2)
          have HO2 : Aside0 (hp (wr.setCell ⟨g, o + y2, none⟩ (.int .u8 (z % 256))) g = some (.cells (u8s (P ++ wrt xs L (le (l.take q) ++ byt x (j + 1)))) tb (0, 0))) := by
            constructor
            rw [hp_here _ _ _ _ _ rfl, HO.out]
            simp only [Option.map_some, setObj_cells, u8s_set]
            rw [app_set hP, show y2 = L - (le (l.take q) ++ byt x j).length - 1 by omega, wrt_set _ _ _ _ (by omega) hL, byt, List.append_assoc, HZ.out]
          have HB2 := Aside0.mk (HB.out.setCell (p := ⟨g, o + y2, none⟩) hg (.int .u8 (z % 256)))
          have HZ2 := Aside0.mk (show z / 256 = x / 256 ^ (j + 1) by rw [HZ.out, Int.pow_succ, Int.ediv_ediv_of_nonneg (Int.le_of_lt (Int.pow_pos (by omega)))])
          have hz0 : 0 ≤ z := by rw [HZ.out]; exact Int.ediv_nonneg hxok.1 (Int.le_of_lt (Int.pow_pos (by omega)))
          clear HO HB HZ hbl hwl
          go_wp2_with (fail)
          go_roundw
          case rel => first | exact ⟨j + 1, y2, z / 256, by omega, by omega, rfl, rfl, by simp, HZ2, HO2, HB2⟩ | fail
          case measure => simp [intOf]; omega
        · obtain rfl : j = 8 := by omega
          have HO2 : Aside0 (hp wr g = some (.cells (u8s (P ++ wrt xs L (le (l.take (q + 1))))) tb (0, 0))) := by
            constructor
            rw [HO.out, List.take_succ_eq_append_getElem (by omega), le_append]
            simp only [le, List.append_nil]
            rw [show l[q] = x by rw [hxx]; simp [List.getD, hlt]]
          clear HO hxx
          go_wp2_with (fail)
          go_roundw
          case rel => first | exact ⟨q + 1, y', by omega, by omega, by simp, rfl, HO2, HB⟩ | fail
          case measure => simp [intOf]; omega
    · obtain rfl : q = l.length := by omega
      have HO2 : Aside0 (hp wr g = some (.cells (u8s (P ++ wrt xs L (le l))) tb (0, 0))) := by
        have := HO.out
        rw [List.take_length] at this
        exact ⟨this⟩
      have hll := le_len l
      have hwl := wrt_len xs L (le l) (by omega) hL
      clear HO
      go_wp2_with (fail)
      go_loop [4] (fun v4 => ∃ k : Nat, k ≤ (le l).length ∧ v4 = .int .i64 ((L - k : Nat) : Int) ∧ Aside0 (strip ((le l).take k) = strip (le l))) (fun i => L - (intOf i).toNat)
      case atStart => exact ⟨(le l).length, by omega, by congr 2; omega, ⟨by rw [List.take_length]⟩⟩
      case round =>
        obtain ⟨k, k0, rfl, HS⟩ := hrel
        by_cases hk : k = 0
        · subst hk
          have HS2 := Aside0.mk (show (strip (le l)).length = 0 by rw [← HS.out]; rfl)
          go_wp2_with (fail)
          go_ret
          exact ⟨by rw [HS2.out]; rfl, HO2.out, HB.out⟩
        · obtain ⟨k', rfl⟩ : ∃ k', k = k' + 1 := ⟨k - 1, by omega⟩
          obtain ⟨i, hi⟩ : ∃ i, L - (k' + 1) = i := ⟨_, rfl⟩
          have hc := (blk_cell HO2.out (o + i)).trans (u8s_get _ (o + i) (by rw [List.length_append]; omega))
          have e1 := wrt_get xs L (le l) k' (by omega) hL (by omega)
          rw [show L - 1 - k' = i by omega] at e1
          rw [app_get hP, e1] at hc
          obtain ⟨x, hx⟩ : ∃ x, x = (le l).getD k' 0 := ⟨_, rfl⟩
          rw [← hx] at hc
          rw [hi]
          by_cases hx0 : x = 0
          · have HS2 := Aside0.mk (show strip ((le l).take k') = strip (le l) by rw [← HS.out]; exact (strip_take _ _ (by omega) (by rw [← hx]; exact hx0)).symm)
            have hb : (x == 0) = true := by rw [beq_iff_eq]; exact hx0
            clear hx e1 hx0 HS
            go_wp2_with (fail)
            go_round
            case rel => first | exact ⟨k', by omega, by congr 1; omega, HS2⟩ | fail
            case measure => simp [intOf]; omega
          · have HS2 := Aside0.mk (show (strip (le l)).length = k' + 1 by rw [← HS.out, strip_stop _ _ (by omega) (by rw [← hx]; exact hx0), List.length_take]; omega)
            have hb : (x == 0) = false := by rw [beq_eq_false_iff_ne]; exact hx0
            clear hx e1 hx0 HS
            go_wp2_with (fail)
            go_ret
            exact ⟨by rw [HS2.out, hi]; rfl, HO2.out, HB.out⟩
theorem fin_wdsb (rb : List Int) (n cc g : Nat) (w : World) (h : hp w g = some (.cells (u64s (wds rb n ++ List.replicate (cc - n) 0)) 139 (0, 0))) (hn : n ≤ cc) (hok : okd 256 rb) (hr : rb.length ≤ 8 * n) (hr2 : 8 * n ≤ rb.length + 7) :
    ∃ R, (strip (wds rb n) ++ R).length = cc ∧ hp w g = some (.cells (u64s (strip (wds rb n) ++ R)) 139 (0, 0)) ∧ Cn BW (strip (wds rb n)) ∧ okd BW (strip (wds rb n) ++ R) ∧ ev BW (strip (wds rb n)) = ev 256 rb := by
  obtain ⟨s1, s2, k, s3, s4⟩ := strip_cn (wds rb n) (wds_ok hok n)
  have e : strip (wds rb n) ++ ((wds rb n).drop k ++ List.replicate (cc - n) 0) = wds rb n ++ List.replicate (cc - n) 0 := by
    rw [s4, ← List.append_assoc, List.take_append_drop]
  refine ⟨(wds rb n).drop k ++ List.replicate (cc - n) 0, ?_, ?_, s1, ?_, ?_⟩
  · rw [e, List.length_append, wds_len, List.length_replicate]; omega
  · rw [e]; exact h
  · rw [e]; exact okd_append.2 ⟨wds_ok hok n, okd_replicate _ BW_pos⟩
  · rw [s2, wds_ev _ _ hr2, List.take_of_length_le hr]
set_option maxHeartbeats 1600000 in
set_option maxRecDepth 100000 in
theorem setBytes_b (ad : Addr) (c : Nat) (bs : List Int) (w : World) (hC : Kd.C (Kd.int .u8) w (some ad) bs.length bs) (hlc : bs.length ≤ c) (h0 : 0 < bs.length) (hbig : bs.length ≤ 1000000) (hok : okd 256 bs) :
    Calls Tryd.prog 86 #[.slice none 0 0, .slice (some ad) bs.length c] w fun e w' => ∃ l R cc, e = .returned (.slice (some ⟨w.heap.size, 0, none⟩) l.length cc) ∧ (l ++ R).length = cc ∧ hp w' w.heap.size = some (.cells (u64s (l ++ R)) 139 (0, 0)) ∧ Cn BW l ∧ okd BW (l ++ R) ∧ ev BW l = ev 256 bs.reverse ∧ cc ≤ 1000000 ∧ Below w.heap.size w w' := by
  have HC := Aside0.mk hC
  have HOK := Aside0.mk hok
  clear hC hok
  obtain ⟨rb, hrb⟩ : ∃ rb, rb = bs.reverse := ⟨_, rfl⟩
  have HRB := Aside0.mk hrb
  have hrl : rb.length = bs.length := by rw [hrb]; simp
  have HOK2 : Aside0 (okd 256 rb) := ⟨by rw [hrb]; exact fun d hd => HOK.out d (List.mem_reverse.1 hd)⟩
  rw [← hrb]
  clear hrb
  go_enter Tryd.func86, Tryd.ntmps86
  go_wp2_with ((fail_if_success go_at_call 98); (fail_if_success go_at_call 111); go_in)
  refine (make_nil _ (by omega) (by omega) _).mono ?_
  rintro e w1 ⟨cc, hc1, hc2, rfl, rfl⟩
  obtain ⟨n, hn⟩ : ∃ n, n = (((bs.length : Int) + 8 - 1) / 8).toNat := ⟨_, rfl⟩
  rw [← hn] at hc1 hc2 ⊢
  have hn1 : bs.length ≤ 8 * n := by omega
  have hn2 : 8 * n ≤ bs.length + 7 := by omega
  clear hn
  go_wp2_with ((fail_if_success go_at_call 98); (fail_if_success go_at_call 111); (fail_if_success go_at_call 112); go_in)
  go_loopw [5, 6] (fun v5 v6 wr => ∃ (i k : Nat), i + 8 * k = bs.length ∧ v5 = .int .i64 (i : Int) ∧ v6 = .int .i64 (k : Int) ∧ Aside0 (hp wr w.heap.size = some (.cells (u64s (wds rb k ++ List.replicate (cc - k) 0)) 139 (0, 0))) ∧ Aside0 (Below w.heap.size w wr)) (fun v _ _ => (intOf v).toNat)
  case atStart => exact ⟨bs.length, 0, by omega, rfl, rfl, ⟨by simp [wds, hp_new]⟩, ⟨below_alloc (Below.refl _ _) _⟩⟩
  case round =>
    obtain ⟨i, k, hik, rfl, rfl, HO, HB⟩ := hrel
    by_cases hi : 8 ≤ i
    · obtain ⟨i2, rfl⟩ : ∃ i2, i = i2 + 8 := ⟨i - 8, by omega⟩
      go_wp2_with ((fail_if_success go_at_call 98); (fail_if_success go_at_call 111); (fail_if_success go_at_call 112); go_in)
      refine (be64_w ad c bs rb i2 k _ (Kd.C_below HC.out HB.out) hlc hik HOK.out HRB.out).mono ?_
      rintro e w2 ⟨rfl, hb⟩
      have ho := hp_below HO.out hb
      have hlen : (wds rb k ++ List.replicate (cc - k) 0).length = cc := by simp [wds_len]; omega
      have hc := (blk_cell ho k).trans (u64s_get _ k (by omega))
      have hf := blk_frozen ho k
      have HO2 : Aside0 (hp (w2.setCell ⟨w.heap.size, k, none⟩ (.int .u64 (wd rb k))) w.heap.size = some (.cells (u64s (wds rb (k + 1) ++ List.replicate (cc - (k + 1)) 0)) 139 (0, 0))) := by
        constructor
        rw [hp_here _ _ _ _ _ rfl, ho]
        simp only [Option.map_some, setObj_cells, u64s_set]
        rw [wds_set _ _ _ (by omega)]
        rfl
      have HB2 := Aside0.mk ((below_step HB.out hb).setCell (p := ⟨w.heap.size, k, none⟩) (Nat.le_refl _) (.int .u64 (wd rb k)))
      have hkn : k < n := by omega
      clear HO HB hb ho hlen
      go_wp2_with ((fail_if_success go_at_call 98); (fail_if_success go_at_call 111); (fail_if_success go_at_call 112); go_in)
      go_roundw
      case rel => first | exact ⟨i2, k + 1, by omega, rfl, by simp, HO2, HB2⟩ | fail
      case measure => simp [intOf]; omega
    · by_cases hi0 : i = 0
      · subst hi0
        obtain rfl : k = n := by omega
        have hH := fin_wds rb k cc w.heap.size wr HO.out hc1 (by omega) HOK2.out (by omega) (by omega)
        have HJ := Aside0.mk (fin_wdsb rb k cc w.heap.size wr HO.out hc1 HOK2.out (by omega) (by omega))
        have HH := Aside0.mk hH
        clear HO hH
        go_wp2_with ((fail_if_success go_at_call 98); (fail_if_success go_at_call 111); (fail_if_success go_at_call 112); go_in)
        refine (norm_w _ cc (wds rb k) k _ HH.out.1 (wds_len _ _) hc1 (by omega)).mono ?_
        rintro e w2 ⟨rfl, rfl⟩
        go_wp2_with ((fail_if_success go_at_call 98); (fail_if_success go_at_call 111); (fail_if_success go_at_call 112); go_in)
        go_ret
        obtain ⟨R, j1, j2, j3, j4, j5⟩ := HJ.out
        exact ⟨_, R, cc, rfl, j1, j2, j3, j4, by rw [j5], by omega, HB.out⟩
      · have hn : n = k + 1 := by omega
        subst hn
        go_wp2_with ((fail_if_success go_at_call 98); (fail_if_success go_at_call 111); (fail_if_success go_at_call 112); go_in)
        go_loop [5, 7, 8] (fun v5 v7 v8 => ∃ (i' t : Nat) (d : Int), i' + t = i ∧ v5 = .int .i64 (i' : Int) ∧ v7 = .int .u64 d ∧ v8 = .int .u64 ((8 * t : Nat) : Int) ∧ Aside0 (d = ev 256 ((rb.drop (8 * k)).take t))) (fun v _ _ => (intOf v).toNat)
        case atStart => exact ⟨i, 0, 0, by omega, rfl, rfl, rfl, ⟨by simp [ev_nil]⟩⟩
        case round =>
          obtain ⟨i', t, d, hit, rfl, rfl, rfl, HD⟩ := hrel
          by_cases hi' : i' = 0
          · subst hi'
            have HD2 : Aside0 (d = wd rb k) := ⟨by rw [HD.out]; unfold wd; rw [List.take_of_length_le (by simp; omega), List.take_of_length_le (by simp; omega)]⟩
            have hlen : (wds rb k ++ List.replicate (cc - k) 0).length = cc := by simp [wds_len]; omega
            have hc := (blk_cell HO.out k).trans (u64s_get _ k (by omega))
            have hf := blk_frozen HO.out k
            have HO2 : hp (wr.setCell ⟨w.heap.size, k, none⟩ (.int .u64 d)) w.heap.size = some (.cells (u64s (wds rb (k + 1) ++ List.replicate (cc - (k + 1)) 0)) 139 (0, 0)) := by
              rw [hp_here _ _ _ _ _ rfl, HO.out]
              simp only [Option.map_some, setObj_cells, u64s_set]
              rw [HD2.out, wds_set _ _ _ (by omega)]
              rfl
            have HB2 := Aside0.mk (HB.out.setCell (p := ⟨w.heap.size, k, none⟩) (Nat.le_refl _) (.int .u64 d))
            have HH := Aside0.mk (fin_wds rb (k + 1) cc w.heap.size _ HO2 hc1 (by omega) HOK2.out (by omega) (by omega))
            have HJ := Aside0.mk (fin_wdsb rb (k + 1) cc w.heap.size _ HO2 hc1 HOK2.out (by omega) (by omega))
            clear HO HB HO2 HD HD2 hlen
            go_wp2_with ((fail_if_success go_at_call 98); (fail_if_success go_at_call 111); (fail_if_success go_at_call 112); go_in)
            refine (norm_w _ cc (wds rb (k + 1)) (k + 1) _ HH.out.1 (wds_len _ _) hc1 (by omega)).mono ?_
            rintro e w2 ⟨rfl, rfl⟩
            go_wp2_with ((fail_if_success go_at_call 98); (fail_if_success go_at_call 111); (fail_if_success go_at_call 112); go_in)
            go_ret
            obtain ⟨R, j1, j2, j3, j4, j5⟩ := HJ.out
            exact ⟨_, R, cc, rfl, j1, j2, j3, j4, by rw [j5], by omega, HB2.out⟩
          · obtain ⟨i2, rfl⟩ : ∃ i2, i' = i2 + 1 := ⟨i' - 1, by omega⟩
            obtain ⟨_, e, hx⟩ := Kd.at_int HC.out (i2 : Int) (by omega) (by omega)
            cases e
            replace hx := (HB.out.cell (World.block_lt_of_cell? _ _ hx)).trans hx
            have hbt : rd bs (i2 : Int) = (rb.drop (8 * k)).getD t 0 := by
              rw [HRB.out]
              simp only [rd, Int.toNat_natCast, List.getD_eq_getElem?_getD, List.getElem?_drop]
              rw [List.getElem?_reverse (by omega)]
              congr 2
              omega
            obtain ⟨b, hb⟩ : ∃ b, b = (rb.drop (8 * k)).getD t 0 := ⟨_, rfl⟩
            rw [hbt, ← hb, Int.toNat_natCast] at hx
            have hokd := okd_drop HOK2.out (8 * k)
            have hb0 := okd_get hokd (by omega) t
            rw [← hb] at hb0
            have htl : ((rb.drop (8 * k)).take t).length = t := by simp; omega
            have hd0 := ev_nonneg (okd_take hokd t) (by omega)
            have hd1 := ev_lt (okd_take hokd t) (by omega)
            rw [htl, ← HD.out] at hd1
            rw [← HD.out] at hd0
            have hput := put8 d b t (by omega) hd0 hd1 hb0.1 hb0.2
            have HD2 : Aside0 (d + 256 ^ t * b = ev 256 ((rb.drop (8 * k)).take (t + 1))) := ⟨by rw [ev_take_succ _ _ _ (by simp; omega), ← hb, ← HD.out]⟩
            clear HD hbt hb hokd htl hd0 hd1
            have HP := Aside0.mk hput
            clear hput
            go_wp2_with ((fail_if_success go_at_call 98); (fail_if_success go_at_call 111); (fail_if_success go_at_call 112); go_in)
            go_round
            case rel => first | exact ⟨i2, t + 1, _, by omega, rfl, rfl, by congr 1, ⟨by rw [HP.out]; exact HD2.out⟩⟩ | fail
            case measure => simp [intOf]
set_option maxHeartbeats 800000 in
set_option maxRecDepth 100000 in
theorem put32_n (g q n4 c : Nat) (h4 : 4 ≤ n4) (xs : List Int) (t : TypeId) (n : Int) (w0 w : World) (hB : Below w0.heap.size w0 w) (hg : w0.heap.size ≤ g) (h : hp w g = some (.cells (u8s xs) t (0, 0))) (hq : q + 4 ≤ xs.length) (hn : 0 ≤ n) :
    Calls Tryd.prog 82 #[.slice (some ⟨g, q, none⟩) n4 c, .int .u32 n] w fun e w' => e = .returned (.tuple #[]) ∧ hp w' g = some (.cells (u8s ((((xs.set q (n / 16777216 % 256)).set (q + 1) (n / 65536 % 256)).set (q + 2) (n / 256 % 256)).set (q + 3) (n % 256))) t (0, 0)) ∧ Below w0.heap.size w0 w' := by
  have h0 := (blk_cell h q).trans (u8s_get _ q (by omega))
  have h1 := (blk_cell h (q + 1)).trans (u8s_get _ (q + 1) (by omega))
  have h2 := (blk_cell h (q + 2)).trans (u8s_get _ (q + 2) (by omega))
  have h3 := (blk_cell h (q + 3)).trans (u8s_get _ (q + 3) (by omega))
  have f0 := blk_frozen h q
  have f1 := blk_frozen h (q + 1)
  have f2 := blk_frozen h (q + 2)
  have f3 := blk_frozen h (q + 3)
  have H := Aside0.mk h
  have HB := Aside0.mk hB
  generalize xs.getD q 0 = x0 at h0
  generalize xs.getD (q + 1) 0 = x1 at h1
  generalize xs.getD (q + 2) 0 = x2 at h2
  generalize xs.getD (q + 3) 0 = x3 at h3
  clear h hB hq
  have h41 : (3 : Int) < (n4 : Int) := by omega
  have h42 : (2 : Int) < (n4 : Int) := by omega
  have h43 : (1 : Int) < (n4 : Int) := by omega
  have h44 : (0 : Int) < (n4 : Int) := by omega
  go_enter Tryd.func82, Tryd.ntmps82
  go_wp2_with (fail)
  refine bodyPost_end (v := .tuple #[]) (by simp [results, Tryd.results82, go_sem]) rfl ?_
  refine ⟨rfl, ?_, (((HB.out.setCell (p := ⟨g, q, none⟩) hg _).setCell (p := ⟨g, q + 1, none⟩) hg _).setCell (p := ⟨g, q + 2, none⟩) hg _).setCell (p := ⟨g, q + 3, none⟩) hg _⟩
  rw [hp_here _ _ _ _ _ rfl, hp_here _ _ _ _ _ rfl, hp_here _ _ _ _ _ rfl, hp_here _ _ _ _ _ rfl, H.out]
  simp only [Option.map_some, setObj_cells, u8s_set]
end Go.Proofs.YtglikgjaobedbaaDoor.Sp
