/-
  CONTRACTS of impl.Marshal and impl.MarshalOnto; Append in the format g with the precision -1, of whatever form.
-/
import Derived.Test.YtfnknldbjckgoaaGreatDoorGapf
import Derived.Test.YtfnknldbjckgoaaGreatDoorGrea
namespace Go.Proofs.YtfnknldbjckgoaaGreatDoor.Sp
open Go.RowKit Go.Proofs.YtfnknldbjckgoaaGreatDoorW.PrintWords Go.Proofs.YtfnknldbjckgoaaGreatDoorW.PrintLast Go.Proofs.YtfnknldbjckgoaaGreatDoorW.PrintMore Go.Proofs.YtfnknldbjckgoaaGreatDoor.Dig
set_option linter.unusedVariables false
set_option linter.unusedSimpArgs false
set_option maxHeartbeats 3200000 in
set_option maxRecDepth 100000 in
theorem rs0 (b g : Nat) (w : World) (h : Dec0 w b) : Calls Tryz.prog 53 #[.pointer (some ⟨b, 0, none⟩), .pointer (some ⟨g, 0, none⟩)] w fun e w' => e = .returned (.tuple #[]) ∧ Below w.heap.size w w' := by
  obtain ⟨c0, c1, f0, f1⟩ := blk2 (show hp w b = some (.cells #[.slice none 0 0, .int .i64 0] 87 (0, 0)) from h)
  have lg := hp_lt h
  clear h
  go_enter Tryz.func53, Tryz.ntmps53
  go_wp2_with (fail)
  refine bodyPost_ret (v := .tuple #[]) (by simp [results, Tryz.results53, go_sem]) rfl ?_
  exact ⟨rfl, Below.refl _ _⟩
set_option maxHeartbeats 3200000 in
set_option maxRecDepth 100000 in
theorem az_gm (g p : Nat) (m : Int) (neg : Bool) (W0 w : World) (v : Value) (l : List Int) (h : Spc w g p m 0 neg) (hb : Bu W0 w v l) (hg : g < W0.heap.size) (hl : l.length ≤ 700000) :
    Calls Tryz.prog 38 #[.pointer (some ⟨g, 0, none⟩), v, .int .u8 103, .int .i64 (-1)] w (BuPost W0 ((l ++ sgn1 neg) ++ [48])) := by
  have HS : Aside0 (∀ w1 v1 l1, Bu W0 w1 v1 l1 → Spc w1 g p m 0 neg) := ⟨fun w1 v1 l1 h1 => (h1.bel.block g hg).trans ((hb.bel.block g hg).symm.trans h)⟩
  have HB := Aside0.mk hb
  have HN := Aside0.mk hl
  obtain ⟨l1, hl1⟩ : ∃ l1, l1 = l ++ sgn1 neg := ⟨_, rfl⟩
  rw [← hl1]
  have HL1 := Aside0.mk hl1
  have HNL : Aside0 (l1.length ≤ 900000) := ⟨by rw [hl1, List.length_append]; cases neg <;> simp [sgn1] <;> omega⟩
  have hu := Tryz.underlying87
  obtain ⟨c0, c1, c2, c3, c4, c5, c6, f0, f1, f2, f3, f4, f5, f6⟩ := blk7 h.blk
  have lg := hp_lt h.blk
  clear h hb hl hl1
  go_enter Tryz.func38, Tryz.ntmps38
  go_upto_if 16 with (fail)
  go_cut [1] (fun v1 wx => Aside0 (Bu W0 wx v1 l1))
  case first => as_aux_lemma =>
    cases neg with
    | true =>
      go_wp2_with (with_reducible refine bu_byte rfl _ _ rfl W0 v l 45 rfl ?h1 rfl ?h2 ?h3)
      case h1 => exact HB.out
      case h2 => exact Nat.le_trans HN.out (by decide)
      case h3 =>
        intro v1 w1 hb1
        have HB1 : Aside0 (Bu W0 w1 v1 l1) := ⟨by rw [HL1.out]; exact hb1⟩
        clear hb1
        go_wp2_with (fail)
        go_meet
        case rel => exact HB1
    | false =>
      have HB1 : Aside0 (Bu W0 w v l1) := ⟨by rw [HL1.out, show l ++ sgn1 false = l from List.append_nil _]; exact HB.out⟩
      go_wp2_with (fail)
      go_meet
      case rel => exact HB1
  case rest =>
    have HB1 := hcut
    clear hcut c0 c1 c2 c3 c4 c5 c6 f0 f1 f2 f3 f4 f5 f6 lg HB
    obtain ⟨v1, hv1⟩ : ∃ v1, v1 = u1 := ⟨_, rfl⟩
    obtain ⟨w1, hw1⟩ : ∃ w1, w1 = wc := ⟨_, rfl⟩
    rw [← hv1, ← hw1] at HB1
    rw [← hv1, ← hw1]
    clear hv1 hw1
    have hs1 := HS.out w1 v1 _ HB1.out
    obtain ⟨c0, c1, c2, c3, c4, c5, c6, f0, f1, f2, f3, f4, f5, f6⟩ := blk7 hs1.blk
    have lg := hp_lt hs1.blk
    have HBD : Aside0 (Bu W0 (w1.alloc (.cells #[.slice none 0 0, .int .i64 0] 87)) v1 l1) := ⟨HB1.out.alloc _⟩
    have HKD : Aside0 (Dec0 (w1.alloc (.cells #[.slice none 0 0, .int .i64 0] 87)) w1.heap.size) := ⟨hp_new _ _ _ rfl⟩
    clear hs1
    go_wp2_with (first | (go_at_call 53; refine (rs0 _ _ _ HKD.out).mono ?_; rintro e wr ⟨rfl, hbr⟩; have HBR := Aside0.mk (HBD.out.below hbr); have HKR := Aside0.mk (hp_below HKD.out hbr); obtain ⟨d0, d1, g0, g1⟩ := blk2 HKR.out; have lgd := hp_lt HKR.out; have HF : Aside0 (Calls Tryz.prog 56 #[v1, .int .i64 0, .agg #[.slice none 0 0, .int .i64 0]] wr (BuPost W0 (l1 ++ [48]))) := Aside0.mk (by have h := fmtF0 0 W0 wr v1 l1 HBR.out (by have := HNL.out; omega) (by omega); simpa [zt, List.append_assoc] using h); clear hbr) | (go_at_call 56; refine HF.out.mono ?_; rintro e w2 ⟨v2, rfl, hb2⟩; have HB2 := Aside0.mk hb2; clear hb2) | fail)
    go_ret
    exact ⟨_, rfl, HB2.out⟩
theorem appN_c (g p vN b n : Nat) (m f x : Int) (neg : Bool) (w0 W0 w : World) (v : Value) (l : List Int) (h : Fl w0 W0 g p m f neg (vN : Int) x b n) (hbp : f = 1 → b ≤ p) (hp : p ≤ 200) (hx : f = 1 → -300 ≤ x ∧ x ≤ 300) (hb : Bu W0 w v l) (hl : l.length ≤ 700000) (hT : Pw W0) (hL : Leaf W0) (hTb : Tb W0) :
    Calls Tryz.prog 38 #[.pointer (some ⟨g, 0, none⟩), v, .int .u8 103, .int .i64 (-1)] w (BuPost W0 (l ++ gT f neg vN b p x (-1))) := by
  rcases h with ⟨rfl, ho, _, hbits, hv0⟩ | ⟨hf, hge, hs⟩
  · have := appK_c g p vN b m x (-1) 103 neg w0 W0 w v l ho (by omega) hbits (hbp rfl) hp (hx rfl) hb (by omega) hT hL hTb (by omega) (by omega)
    rw [show gT 1 neg vN b p x (-1) = sgn1 neg ++ finT vN b p x 103 (-1) from rfl, ← List.append_assoc]
    exact this
  · have hgs : g < W0.heap.size := hp_lt hs
    have hs1 : Spc w g p m f neg := (hb.bel.block g hgs).trans hs
    rcases hf with rfl | rfl
    · have := az_gm g p m neg W0 w v l hs1 hb hgs hl
      rw [show gT 0 neg vN b p x (-1) = sgn1 neg ++ [48] from rfl, ← List.append_assoc]
      exact this
    · exact append_inf g p m 103 (-1) neg W0 w v l hs1 hb hgs (by omega)
/-- A Real that is valid, with what it holds. -/
theorem rok_of2 {P : Nat} {m f x : Int} {A : Option Addr} {c : Nat} {X : List Int} {w : World} (h : RealOk 200 300 (P : Int) m f x X) (hws : Ws w (.slice A X.length c) X) : ∃ (vN b n : Nat), ROk w P m f A X.length c x (vN : Int) b n X ∧ (f = 1 → b ≤ P) ∧ P ≤ 200 ∧ (f = 1 → -300 ≤ x ∧ x ≤ 300) := by
  obtain ⟨⟨h1, h2, h3, h4⟩, hr⟩ := h
  rcases hr with hf | ⟨rfl, hlen, hev, ⟨b, hb, hbp⟩, hx0, hx1⟩
  · exact ⟨0, 0, 0, ⟨⟨by omega, by omega⟩, ⟨h3, by omega⟩, .inl hf⟩, fun h => by omega, by omega, fun h => by omega⟩
  · obtain ⟨vN, hvN⟩ := Int.eq_ofNat_of_zero_le (Int.le_of_lt hev)
    rw [hvN] at hb hev
    obtain ⟨mo, n, e⟩ := odd_part vN (by omega)
    refine ⟨vN, b, n, ⟨⟨by omega, by omega⟩, ⟨h3, by omega⟩, .inr ⟨rfl, hws, by omega, hvN, hev, hb, ?_, by omega, by omega, by omega⟩⟩, fun _ => by omega, by omega, fun _ => ⟨hx0, hx1⟩⟩
    exact ⟨(mo : Int), by rw [e, Int.natCast_mul, Int.natCast_pow, Int.mul_comm]; simp⟩
theorem reps_ints (xs : List Int) (cs : List Value) (h : Reps (fun (x : Int) (cs : List Value) => cs = [.int .u8 x]) 1 xs cs) : cs = nums .u8 xs := by
  obtain ⟨h1, h2⟩ := h
  rw [Nat.mul_one] at h1
  apply List.ext_getElem
  · simp [nums, h1]
  · intro j hj1 hj2
    have hjx : j < xs.length := by omega
    have h3 := h2 j xs[j] (List.getElem?_eq_getElem hjx)
    rw [Nat.mul_one, List.drop_eq_getElem_cons hj1] at h3
    have h5 : [cs[j]] = [Value.int .u8 xs[j]] := h3
    injection h5 with h4
    rw [h4]
    simp [nums]
theorem bu_of_R {W0 w : World} {v : Value} {l : List Int} {ok : Nat → Prop} (h : Kd.R (Kd.int .u8) 5 w W0.heap.size ok v l) (hB : Below W0.heap.size W0 w) : Bu W0 w v l := by
  obtain ⟨_, inner, h1, h2⟩ := h
  have h3 := reps_ints l inner h2
  subst h3
  exact ⟨h1, hB⟩
theorem Bu.drew1 {W0 w : World} {v : Value} {l : List Int} (h : Bu W0 w v l) : Bu W0 w.drew v l := ⟨h.own, ⟨h.bel.os, h.bel.tape, h.bel.output, h.bel.size, h.bel.block⟩⟩
theorem bu_nil (W : World) : Bu W W (.slice none 0 0) [] := ⟨own_nil _ _ _ _, Below.refl _ _⟩
set_option maxHeartbeats 3200000 in
set_option maxRecDepth 100000 in
theorem marshal_c (p b n : Nat) (m f : Int) (neg : Bool) (A : Option Addr) (mm cc : Nat) (x v : Int) (X T : List Int) (w : World) (h : ROk w p m f A mm cc x v b n X)
    (HA0 : ∀ W0 W g (vv : Value) (l : List Int), Below w.heap.size w W0 → Fl (w.alloc (.cells #[.int .u64 p, .int .i64 m, .int .i64 f, .bool neg, .slice A mm cc, .int .i64 x] 25)) W0 g p m f neg v x b n → Bu W0 W vv l → l.length ≤ 100000 → Calls Tryz.prog 38 #[.pointer (some ⟨g, 0, none⟩), vv, .int .u8 103, .int .i64 (-1)] W (BuPost W0 (l ++ T))) :
    Calls Tryz.prog 22 #[.agg #[.int .u64 p, .int .i64 m, .int .i64 f, .bool neg, .slice A mm cc, .int .i64 x]] w fun e w' => ∃ v' W0, e = .returned (.tuple #[v', .bool true]) ∧ Bu W0 w' v' T ∧ Below w.heap.size w W0 ∧ Below w.heap.size w w' := by
  have hu := Tryz.underlying25
  have HB0 := Aside0.mk (below_alloc (Below.refl w.heap.size w) (.cells #[.int .u64 p, .int .i64 m, .int .i64 f, .bool neg, .slice A mm cc, .int .i64 x] 25))
  have HEX := Aside0.mk (exact_fl p m f neg A mm cc x v b n X _ (h.below HB0.out))
  have HA := Aside0.mk HA0
  clear HA0 h
  go_enter Tryz.func22, Tryz.ntmps22
  go_wp2_with (fail)
  refine HEX.out.mono ?_
  rintro e w1 ⟨g, rfl, hs, hb1⟩
  have HB1 := Aside0.mk (below_step HB0.out hb1)
  have HT := Aside0.mk (HA.out w1 w1 g (.slice none 0 0) [] HB1.out hs (bu_nil w1) (by simp))
  clear hs hb1
  go_wp2_with ((fail_if_success go_at_call 38); go_in)
  refine HT.out.mono ?_
  rintro e w2 ⟨v2, rfl, hb2⟩
  have HB2 := Aside0.mk hb2
  clear hb2 HT
  go_wp2_with (fail)
  refine start_ (n := 5) (S := fun w' => True) (ds := []) #[false, false, false, false, false] (by kernel_rfl) rfl rfl trivial (fun hHeld => ?_)
  refine pure_ (i := 0) (N := some 12) (v := ?_) (a' := ?_) #[true, false, false, false, false] rfl rfl (by kernel_rfl) (fun _ _ _ h => h) (Or.inl ⟨by rfl, ?_⟩) ?_ ?_
  rotate_left
  · intro w'
    go_simp
    with_reducible rfl
  rotate_left
  · simp only [Act.put, List.setIfInBounds_toArray, List.set_cons_zero, List.set_cons_succ, i64_w, i32_w]
    rfl
  refine pure_ (i := 1) (N := some 13) (v := ?_) (a' := ?_) #[true, true, false, false, false] rfl rfl (by kernel_rfl) (fun _ _ _ h => h) (Or.inl ⟨by rfl, ?_⟩) ?_ ?_
  rotate_left
  · intro w'
    go_simp
    with_reducible rfl
  rotate_left
  · simp only [Act.put, List.setIfInBounds_toArray, List.set_cons_zero, List.set_cons_succ, i64_w, i32_w]
    rfl
  refine pure_ (i := 2) (N := some 14) (v := ?_) (a' := ?_) #[true, true, true, false, false] rfl rfl (by kernel_rfl) (fun _ _ _ h => h) (Or.inl ⟨by rfl, ?_⟩) ?_ ?_
  rotate_left
  · intro w'
    go_simp
    with_reducible rfl
  rotate_left
  · simp only [Act.put, List.setIfInBounds_toArray, List.set_cons_zero, List.set_cons_succ, i64_w, i32_w]
    rfl
  refine pure_ (i := 3) (N := some 2) (v := ?_) (a' := ?_) #[true, true, true, true, false] rfl rfl (by kernel_rfl) (fun _ _ _ h => h) (Or.inl ⟨by rfl, ?_⟩) ?_ ?_
  rotate_left
  · intro w'
    go_simp
    with_reducible rfl
  rotate_left
  · simp only [Act.put, List.setIfInBounds_toArray, List.set_cons_zero, List.set_cons_succ, i64_w, i32_w]
    rfl
  refine pure_ (i := 4) (N := some 3) (v := ?_) (a' := ?_) #[true, true, true, true, true] rfl rfl (by kernel_rfl) (fun _ _ _ h => h) (Or.inl ⟨by rfl, ?_⟩) ?_ ?_
  rotate_left
  · intro w'
    go_simp
    with_reducible rfl
  rotate_left
  · simp only [Act.put, List.setIfInBounds_toArray, List.set_cons_zero, List.set_cons_succ, i64_w, i32_w]
    rfl
  refine done_ (by kernel_rfl) ?_
  go_wp2_with (fail)
  go_ret2
  exact ⟨v2, w1, rfl, by have h := HB2.out.drew1; rwa [List.nil_append] at h, HB1.out, below_step HB1.out HB2.out.drew1.bel⟩
theorem R_empty {w : World} {g base e : Nat} (k : IntKind) (h : hp w g = some (.cells #[] e (0, 0))) (hb : base ≤ g) : Kd.R (Kd.int k) e w base (fun k => base ≤ k) (.slice (some ⟨g, 0, none⟩) 0 0) [] :=
  ⟨fun k hk => by simp [Value.ownBlock] at hk; omega, [], ⟨rfl, Or.inr ⟨g, 0, #[], rfl, hb, h, Nat.le_refl _, by decide, rfl, rfl⟩⟩, Reps.none _ _⟩
set_option maxHeartbeats 3200000 in
set_option maxRecDepth 100000 in
theorem marshalOnto_c (p b n : Nat) (m f : Int) (neg : Bool) (A Ab : Option Addr) (mm cc cb : Nat) (x v : Int) (X T Lb : List Int) (w : World) (h : ROk w p m f A mm cc x v b n X) (hLb : Kd.C (Kd.int .u8) w Ab Lb.length Lb) (hLn : Lb.length ≤ 100000)
    (HA0 : ∀ W0 W g (vv : Value) (l : List Int), Below w.heap.size w W0 → Fl (w.alloc (.cells #[.int .u64 p, .int .i64 m, .int .i64 f, .bool neg, .slice A mm cc, .int .i64 x] 25)) W0 g p m f neg v x b n → Bu W0 W vv l → l.length ≤ 100000 → Calls Tryz.prog 38 #[.pointer (some ⟨g, 0, none⟩), vv, .int .u8 103, .int .i64 (-1)] W (BuPost W0 (l ++ T))) :
    Calls Tryz.prog 23 #[.slice Ab Lb.length cb, .agg #[.int .u64 p, .int .i64 m, .int .i64 f, .bool neg, .slice A mm cc, .int .i64 x]] w fun e w' => ∃ v' W0, e = .returned (.tuple #[v', .bool true]) ∧ Bu W0 w' v' (Lb ++ T) ∧ Below w.heap.size w W0 ∧ Below w.heap.size w w' := by
  have hu := Tryz.underlying25
  have HB0 := Aside0.mk (below_alloc (Below.refl w.heap.size w) (.cells #[.int .u64 p, .int .i64 m, .int .i64 f, .bool neg, .slice A mm cc, .int .i64 x] 25))
  have HEX := Aside0.mk (exact_fl p m f neg A mm cc x v b n X _ (h.below HB0.out))
  have HA := Aside0.mk HA0
  have HLB := Aside0.mk hLb
  have HLN := Aside0.mk hLn
  clear HA0 h hLb hLn
  go_enter Tryz.func23, Tryz.ntmps23
  go_wp2_with (fail)
  refine HEX.out.mono ?_
  rintro e w1 ⟨g, rfl, hs, hb1⟩
  have HB1 := Aside0.mk (below_step HB0.out hb1)
  have HS1 := Aside0.mk hs
  obtain ⟨w0, hw0⟩ : ∃ w0, w0 = w1.alloc (.cells #[] 5) := ⟨_, rfl⟩
  have hb0 : Below w1.heap.size w1 w0 := by rw [hw0]; exact below_alloc (Below.refl _ _) _
  have HC := Aside0.mk (Kd.C_below (Kd.C_below HLB.out HB1.out) hb0)
  have HO : Aside0 (Kd.R (Kd.int .u8) 5 w0 w1.heap.size (fun k => w1.heap.size ≤ k) (.slice (some ⟨w1.heap.size, 0, none⟩) 0 0) []) := ⟨R_empty .u8 (by rw [hw0]; exact hp_new _ _ _ (by simp)) (Nat.le_refl _)⟩
  have HSZ : Aside0 (w0.heap.size = w1.heap.size + 1) := ⟨by rw [hw0]; simp⟩
  have HBB := Aside0.mk hb0
  have HW0 := Aside0.mk hw0
  clear hs hb1 hb0 hw0
  go_wp2_with ((with_reducible refine gate_builtin (b := .append) (xs := #[.tmp 11, .tmp 12]) rfl ?_); at_builtin; rw [← HW0.out]; go_must (refine Kd.R_append_row (Value.int .u8) (0 : Int) (w0 := w0) w1.heap.size rfl (.tmp 11) (.tmp 12) 43 5 (.int .u8 0) 1 rfl Tryz.underlying43 infoU8 rfl (by decide) (.slice (some ⟨w1.heap.size, 0, none⟩) 0 0) [] Lb Ab Lb.length cb (fun k => w1.heap.size ≤ k) rfl rfl (fun k hk => by have := HSZ.out; omega) HO.out HC.out (Below.refl _ _) (by have := HSZ.out; omega) (by have := HLN.out; simp; omega) ?_); intro v1 w2 ho hb hg hat)
  have ho : Kd.R (Kd.int .u8) 5 w2 w1.heap.size (fun k => w1.heap.size ≤ k) v1 Lb := ho
  have HT := Aside0.mk (HA.out w1 w2 g v1 Lb HB1.out HS1.out (bu_of_R ho (HBB.out.trans hb)) HLN.out)
  clear ho hb hg hat HA HEX HO HC HBB HW0 HSZ HS1
  go_wp2_with ((fail_if_success go_at_call 38); go_in)
  refine HT.out.mono ?_
  rintro e w3 ⟨v3, rfl, hb3⟩
  have HB3 := Aside0.mk hb3
  clear hb3 HT
  go_wp2_with (fail)
  refine start_ (n := 5) (S := fun w' => True) (ds := []) #[false, false, false, false, false] (by kernel_rfl) rfl rfl trivial (fun hHeld => ?_)
  refine pure_ (i := 0) (N := some 17) (v := ?_) (a' := ?_) #[true, false, false, false, false] rfl rfl (by kernel_rfl) (fun _ _ _ h => h) (Or.inl ⟨by rfl, ?_⟩) ?_ ?_
  rotate_left
  · intro w'
    go_simp
    with_reducible rfl
  rotate_left
  · simp only [Act.put, List.setIfInBounds_toArray, List.set_cons_zero, List.set_cons_succ, i64_w, i32_w]
    rfl
  refine pure_ (i := 1) (N := some 18) (v := ?_) (a' := ?_) #[true, true, false, false, false] rfl rfl (by kernel_rfl) (fun _ _ _ h => h) (Or.inl ⟨by rfl, ?_⟩) ?_ ?_
  rotate_left
  · intro w'
    go_simp
    with_reducible rfl
  rotate_left
  · simp only [Act.put, List.setIfInBounds_toArray, List.set_cons_zero, List.set_cons_succ, i64_w, i32_w]
    rfl
  refine pure_ (i := 2) (N := some 19) (v := ?_) (a' := ?_) #[true, true, true, false, false] rfl rfl (by kernel_rfl) (fun _ _ _ h => h) (Or.inl ⟨by rfl, ?_⟩) ?_ ?_
  rotate_left
  · intro w'
    go_simp
    with_reducible rfl
  rotate_left
  · simp only [Act.put, List.setIfInBounds_toArray, List.set_cons_zero, List.set_cons_succ, i64_w, i32_w]
    rfl
  refine pure_ (i := 3) (N := some 4) (v := ?_) (a' := ?_) #[true, true, true, true, false] rfl rfl (by kernel_rfl) (fun _ _ _ h => h) (Or.inl ⟨by rfl, ?_⟩) ?_ ?_
  rotate_left
  · intro w'
    go_simp
    with_reducible rfl
  rotate_left
  · simp only [Act.put, List.setIfInBounds_toArray, List.set_cons_zero, List.set_cons_succ, i64_w, i32_w]
    rfl
  refine pure_ (i := 4) (N := some 5) (v := ?_) (a' := ?_) #[true, true, true, true, true] rfl rfl (by kernel_rfl) (fun _ _ _ h => h) (Or.inl ⟨by rfl, ?_⟩) ?_ ?_
  rotate_left
  · intro w'
    go_simp
    with_reducible rfl
  rotate_left
  · simp only [Act.put, List.setIfInBounds_toArray, List.set_cons_zero, List.set_cons_succ, i64_w, i32_w]
    rfl
  refine done_ (by kernel_rfl) ?_
  go_wp2_with (fail)
  go_ret2
  exact ⟨v3, w1, rfl, HB3.out.drew1, HB1.out, below_step HB1.out HB3.out.drew1.bel⟩
set_option maxHeartbeats 3200000 in
set_option maxRecDepth 100000 in
theorem append_c (p b n : Nat) (m f ch k : Int) (neg : Bool) (A Ab : Option Addr) (mm cc cb : Nat) (x v : Int) (X T Lb : List Int) (w : World) (h : ROk w p m f A mm cc x v b n X) (hLb : Kd.C (Kd.int .u8) w Ab Lb.length Lb) (hLn : Lb.length ≤ 100000)
    (HA0 : ∀ W0 W g (vv : Value) (l : List Int), Below w.heap.size w W0 → Fl (w.alloc (.cells #[.int .u64 p, .int .i64 m, .int .i64 f, .bool neg, .slice A mm cc, .int .i64 x] 25)) W0 g p m f neg v x b n → Bu W0 W vv l → l.length ≤ 100000 → Calls Tryz.prog 38 #[.pointer (some ⟨g, 0, none⟩), vv, .int .u8 ch, .int .i64 k] W (BuPost W0 (l ++ T))) :
    Calls Tryz.prog 24 #[.slice Ab Lb.length cb, .agg #[.int .u64 p, .int .i64 m, .int .i64 f, .bool neg, .slice A mm cc, .int .i64 x], .int .u8 ch, .int .i64 k] w fun e w' => ∃ v' W0, e = .returned v' ∧ Bu W0 w' v' (Lb ++ T) ∧ Below w.heap.size w W0 ∧ Below w.heap.size w w' := by
  have hu := Tryz.underlying25
  have HB0 := Aside0.mk (below_alloc (Below.refl w.heap.size w) (.cells #[.int .u64 p, .int .i64 m, .int .i64 f, .bool neg, .slice A mm cc, .int .i64 x] 25))
  have HEX := Aside0.mk (exact_fl p m f neg A mm cc x v b n X _ (h.below HB0.out))
  have HA := Aside0.mk HA0
  have HLB := Aside0.mk hLb
  have HLN := Aside0.mk hLn
  clear HA0 h hLb hLn
  go_enter Tryz.func24, Tryz.ntmps24
  go_wp2_with (fail)
  refine HEX.out.mono ?_
  rintro e w1 ⟨g, rfl, hs, hb1⟩
  have HB1 := Aside0.mk (below_step HB0.out hb1)
  have HS1 := Aside0.mk hs
  obtain ⟨w0, hw0⟩ : ∃ w0, w0 = w1.alloc (.cells #[] 5) := ⟨_, rfl⟩
  have hb0 : Below w1.heap.size w1 w0 := by rw [hw0]; exact below_alloc (Below.refl _ _) _
  have HC := Aside0.mk (Kd.C_below (Kd.C_below HLB.out HB1.out) hb0)
  have HO : Aside0 (Kd.R (Kd.int .u8) 5 w0 w1.heap.size (fun k => w1.heap.size ≤ k) (.slice (some ⟨w1.heap.size, 0, none⟩) 0 0) []) := ⟨R_empty .u8 (by rw [hw0]; exact hp_new _ _ _ (by simp)) (Nat.le_refl _)⟩
  have HSZ : Aside0 (w0.heap.size = w1.heap.size + 1) := ⟨by rw [hw0]; simp⟩
  have HBB := Aside0.mk hb0
  have HW0 := Aside0.mk hw0
  clear hs hb1 hb0 hw0
  go_wp2_with ((with_reducible refine gate_builtin (b := .append) (xs := #[.tmp 11, .tmp 12]) rfl ?_); at_builtin; rw [← HW0.out]; go_must (refine Kd.R_append_row (Value.int .u8) (0 : Int) (w0 := w0) w1.heap.size rfl (.tmp 11) (.tmp 12) 43 5 (.int .u8 0) 1 rfl Tryz.underlying43 infoU8 rfl (by decide) (.slice (some ⟨w1.heap.size, 0, none⟩) 0 0) [] Lb Ab Lb.length cb (fun k => w1.heap.size ≤ k) rfl rfl (fun k hk => by have := HSZ.out; omega) HO.out HC.out (Below.refl _ _) (by have := HSZ.out; omega) (by have := HLN.out; simp; omega) ?_); intro v1 w2 ho hb hg hat)
  have ho : Kd.R (Kd.int .u8) 5 w2 w1.heap.size (fun k => w1.heap.size ≤ k) v1 Lb := ho
  have HT := Aside0.mk (HA.out w1 w2 g v1 Lb HB1.out HS1.out (bu_of_R ho (HBB.out.trans hb)) HLN.out)
  clear ho hb hg hat HA HEX HO HC HBB HW0 HSZ HS1
  go_wp2_with ((fail_if_success go_at_call 38); go_in)
  refine HT.out.mono ?_
  rintro e w3 ⟨v3, rfl, hb3⟩
  have HB3 := Aside0.mk hb3
  clear hb3 HT
  go_wp2_with (fail)
  go_wp2_with (fail)
  go_ret
  exact ⟨v3, w1, rfl, HB3.out, HB1.out, below_step HB1.out HB3.out.bel⟩
end Go.Proofs.YtfnknldbjckgoaaGreatDoor.Sp
