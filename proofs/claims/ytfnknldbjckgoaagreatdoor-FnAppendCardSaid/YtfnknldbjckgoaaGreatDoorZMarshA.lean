/-
  CONTRACT of impl.Append (the lines of Marsh that FnAppend wants).
-/
import Derived.Test.YtfnknldbjckgoaaGreatDoorZGapf
import Derived.Test.YtfnknldbjckgoaaGreatDoorZGrea
namespace Go.Proofs.YtfnknldbjckgoaaGreatDoor.Sp
open Go.RowKit Go.Proofs.YtfnknldbjckgoaaGreatDoorW.PrintWords Go.Proofs.YtfnknldbjckgoaaGreatDoorW.PrintLast Go.Proofs.YtfnknldbjckgoaaGreatDoorW.PrintMore Go.Proofs.YtfnknldbjckgoaaGreatDoor.Dig
set_option linter.unusedVariables false
set_option linter.unusedSimpArgs false
/-- A Real that is valid, with what it holds. -/
theorem rok_of2 {P : Nat} {m f x : Int} {A : Option Addr} {c : Nat} {X : List Int} {w : World} (h : RealOk 200 300 (P : Int) m f x X) (hws : Ws w (.slice A X.length c) X) : ∃ (vN b n : Nat), ROk w P m f A X.length c x (vN : Int) b n X ∧ (f = 1 → b ≤ P) ∧ P ≤ 200 ∧ (f = 1 → -300 ≤ x ∧ x ≤ 300) := by
  obtain ⟨⟨h1, h2, h3, h4⟩, hr⟩ := h
  rcases hr with hf | ⟨rfl, hlen, hev, ⟨b, hb, hbp⟩, hx0, hx1⟩
  · exact ⟨0, 0, 0, ⟨⟨by omega, by omega⟩, ⟨h3, by omega⟩, .inl hf⟩, fun h => by omega, by omega, fun h => by omega⟩
  · obtain ⟨vN, hvN⟩ := Int.eq_ofNat_of_zero_le (Int.le_of_lt hev)
    rw [hvN] at hb hev
    obtain ⟨mo, n, e⟩ := odd_part vN (by omega)
    refine ⟨vN, b, n, ⟨⟨by omega, by omega⟩, ⟨h3, by omega⟩, .inr ⟨rfl, hws, by omega, hvN, hev, hb, ?_, by omega, by omega, by omega⟩⟩, fun _ => by omega, by omega, fun _ => ⟨hx0, hx1⟩⟩
    exact ⟨(mo : Int), by rw [e, Int.natCast_mul, Int.natCast_pow, Int.mul_comm]; simp⟩
theorem reps_ints (xs : List Int) (cs : List Value) (h : Reps (fun (x : Int) (cs : List Value) => cs = [.int .u8 x]) 1 xs cs) : cs = nums .u8 xs := by
  obtain ⟨h1, h2⟩ := h
  rw [Nat.mul_one] at h1
  apply List.ext_getElem
  · simp [nums, h1]
  · intro j hj1 hj2
    have hjx : j < xs.length := by omega
    have h3 := h2 j xs[j] (List.getElem?_eq_getElem hjx)
    rw [Nat.mul_one, List.drop_eq_getElem_cons hj1] at h3
    have h5 : [cs[j]] = [Value.int .u8 xs[j]] := h3
    injection h5 with h4
    rw [h4]
    simp [nums]
theorem bu_of_R {W0 w : World} {v : Value} {l : List Int} {ok : Nat → Prop} (h : Kd.R (Kd.int .u8) 5 w W0.heap.size ok v l) (hB : Below W0.heap.size W0 w) : Bu W0 w v l := by
  obtain ⟨_, inner, h1, h2⟩ := h
  have h3 := reps_ints l inner h2
  subst h3
  exact ⟨h1, hB⟩
theorem R_empty {w : World} {g base e : Nat} (k : IntKind) (h : hp w g = some (.cells #[] e (0, 0))) (hb : base ≤ g) : Kd.R (Kd.int k) e w base (fun k => base ≤ k) (.slice (some ⟨g, 0, none⟩) 0 0) [] :=
  ⟨fun k hk => by simp [Value.ownBlock] at hk; omega, [], ⟨rfl, Or.inr ⟨g, 0, #[], rfl, hb, h, Nat.le_refl _, by decide, rfl, rfl⟩⟩, Reps.none _ _⟩
set_option maxHeartbeats 3200000 in
set_option maxRecDepth 100000 in
theorem append_c (p b n : Nat) (m f ch k : Int) (neg : Bool) (A Ab : Option Addr) (mm cc cb : Nat) (x v : Int) (X T Lb : List Int) (w : World) (h : ROk w p m f A mm cc x v b n X) (hLb : Kd.C (Kd.int .u8) w Ab Lb.length Lb) (hLn : Lb.length ≤ 100000)
    (HA0 : ∀ W0 W g (vv : Value) (l : List Int), Below w.heap.size w W0 → Fl (w.alloc (.cells #[.int .u64 p, .int .i64 m, .int .i64 f, .bool neg, .slice A mm cc, .int .i64 x] 25)) W0 g p m f neg v x b n → Bu W0 W vv l → l.length ≤ 100000 → Calls Tryz.prog 38 #[.pointer (some ⟨g, 0, none⟩), vv, .int .u8 ch, .int .i64 k] W (BuPost W0 (l ++ T))) :
    Calls Tryz.prog 24 #[.slice Ab Lb.length cb, .agg #[.int .u64 p, .int .i64 m, .int .i64 f, .bool neg, .slice A mm cc, .int .i64 x], .int .u8 ch, .int .i64 k] w fun e w' => ∃ v' W0, e = .returned v' ∧ Bu W0 w' v' (Lb ++ T) ∧ Below w.heap.size w W0 ∧ Below w.heap.size w w' := by
  have hu := Tryz.underlying25
  have HB0 := Aside0.mk (below_alloc (Below.refl w.heap.size w) (.cells #[.int .u64 p, .int .i64 m, .int .i64 f, .bool neg, .slice A mm cc, .int .i64 x] 25))
  have HEX := Aside0.mk (exact_fl p m f neg A mm cc x v b n X _ (h.below HB0.out))
  have HA := Aside0.mk HA0
  have HLB := Aside0.mk hLb
  have HLN := Aside0.mk hLn
  clear HA0 h hLb hLn
  go_enter Tryz.func24, Tryz.ntmps24
  go_wp2_with (fail)
  refine HEX.out.mono ?_
  rintro e w1 ⟨g, rfl, hs, hb1⟩
  have HB1 := Aside0.mk (below_step HB0.out hb1)
  have HS1 := Aside0.mk hs
  obtain ⟨w0, hw0⟩ : ∃ w0, w0 = w1.alloc (.cells #[] 5) := ⟨_, rfl⟩
  have hb0 : Below w1.heap.size w1 w0 := by rw [hw0]; exact below_alloc (Below.refl _ _) _
  have HC := Aside0.mk (Kd.C_below (Kd.C_below HLB.out HB1.out) hb0)
  have HO : Aside0 (Kd.R (Kd.int .u8) 5 w0 w1.heap.size (fun k => w1.heap.size ≤ k) (.slice (some ⟨w1.heap.size, 0, none⟩) 0 0) []) := ⟨R_empty .u8 (by rw [hw0]; exact hp_new _ _ _ (by simp)) (Nat.le_refl _)⟩
  have HSZ : Aside0 (w0.heap.size = w1.heap.size + 1) := ⟨by rw [hw0]; simp⟩
  have HBB := Aside0.mk hb0
  have HW0 := Aside0.mk hw0
  clear hs hb1 hb0 hw0
  go_wp2_with ((with_reducible refine gate_builtin (b := .append) (xs := #[.tmp 11, .tmp 12]) rfl ?_); at_builtin; rw [← HW0.out]; go_must (refine Kd.R_append_row (Value.int .u8) (0 : Int) (w0 := w0) w1.heap.size rfl (.tmp 11) (.tmp 12) 43 5 (.int .u8 0) 1 rfl Tryz.underlying43 infoU8 rfl (by decide) (.slice (some ⟨w1.heap.size, 0, none⟩) 0 0) [] Lb Ab Lb.length cb (fun k => w1.heap.size ≤ k) rfl rfl (fun k hk => by have := HSZ.out; omega) HO.out HC.out (Below.refl _ _) (by have := HSZ.out; omega) (by have := HLN.out; simp; omega) ?_); intro v1 w2 ho hb hg hat)
  have ho : Kd.R (Kd.int .u8) 5 w2 w1.heap.size (fun k => w1.heap.size ≤ k) v1 Lb := ho
  have HT := Aside0.mk (HA.out w1 w2 g v1 Lb HB1.out HS1.out (bu_of_R ho (HBB.out.trans hb)) HLN.out)
  clear ho hb hg hat HA HEX HO HC HBB HW0 HSZ HS1
  go_wp2_with ((fail_if_success go_at_call 38); go_in)
  refine HT.out.mono ?_
  rintro e w3 ⟨v3, rfl, hb3⟩
  have HB3 := Aside0.mk hb3
  clear hb3 HT
  go_wp2_with (fail)
  go_wp2_with (fail)
  go_ret
  exact ⟨v3, w1, rfl, HB3.out, HB1.out, below_step HB1.out HB3.out.bel⟩
end Go.Proofs.YtfnknldbjckgoaaGreatDoor.Sp
