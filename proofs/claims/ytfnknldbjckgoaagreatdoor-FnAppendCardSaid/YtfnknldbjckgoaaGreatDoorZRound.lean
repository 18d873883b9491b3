/-
  CONTRACT of Float.round.
-/
import Derived.Test.YtfnknldbjckgoaaGreatDoorZGnat
import Derived.Deep.DeepCutAuto
import Derived.Deep.CutBlock
namespace Go.Proofs.YtfnknldbjckgoaaGreatDoor.Sp
open Go.RowKit Go.Proofs.YtfnknldbjckgoaaGreatDoorW.PrintWords Go.Proofs.YtfnknldbjckgoaaGreatDoorW.PrintLast Go.Proofs.YtfnknldbjckgoaaGreatDoorW.PrintMore Go.Proofs.YtfnknldbjckgoaaGreatDoor.Dig
set_option linter.unusedVariables false
set_option linter.unusedSimpArgs false

/-- A Float in block g whose mantissa lies in block mb: its first n words count, Z are all, the capacity is c. -/
structure Flt (w : World) (g mb : Nat) (p m acc f : Int) (neg : Bool) (n c : Nat) (E : Int) (Z : List Int) : Prop where
  flt : hp w g = some (.cells #[.int .u32 p, .int .u8 m, .int .i8 acc, .int .u8 f, .bool neg, .slice (some ⟨mb, 0, none⟩) n c, .int .i32 E] 83 (0, 0))
  mant : hp w mb = some (.cells (u64s Z) 108 (0, 0))
  ne : g ≠ mb
  ok : okd BW Z
  le : n ≤ Z.length
  lec : n ≤ c
  max : Z.length ≤ 1000000
theorem Flt.kept {S : Nat → Prop} {w w' : World} {g mb n c : Nat} {p m acc f E : Int} {neg : Bool} {Z : List Int} (h : Flt w g mb p m acc f neg n c E Z) (hk : Kept S w w') (h1 : ¬ S g) (h2 : ¬ S mb) : Flt w' g mb p m acc f neg n c E Z :=
  ⟨hp_kept h.flt hk h1, hp_kept h.mant hk h2, h.ne, h.ok, h.le, h.lec, h.max⟩
theorem Flt.below {w w' : World} {g mb n c : Nat} {p m acc f E : Int} {neg : Bool} {Z : List Int} (h : Flt w g mb p m acc f neg n c E Z) (hk : Below w.heap.size w w') : Flt w' g mb p m acc f neg n c E Z :=
  ⟨hp_below h.flt hk, hp_below h.mant hk, h.ne, h.ok, h.le, h.lec, h.max⟩
theorem Flt.C {w : World} {g mb n c : Nat} {p m acc f E : Int} {neg : Bool} {Z : List Int} (h : Flt w g mb p m acc f neg n c E Z) : Kd.C (Kd.int .u64) w (some ⟨mb, 0, none⟩) (Z.take n).length (Z.take n) := by
  have hl : (Z.take n).length = n := by rw [List.length_take, Nat.min_eq_left h.le]
  refine blk_C _ h.mant 0 (by have := h.max; have := h.le; omega) (fun i hi => ?_)
  rw [hl] at hi
  rw [Nat.zero_add, u64s_get Z i (by have := h.le; omega)]
  simp [List.getD, hi]

theorem Flt.setMode {w : World} {g mb n c : Nat} {p m acc f E : Int} {neg : Bool} {Z : List Int} (h : Flt w g mb p m acc f neg n c E Z) (a : Int) : Flt (w.setCell ⟨g, 1, none⟩ (.int .u8 a)) g mb p a acc f neg n c E Z :=
  ⟨by rw [hp_here _ _ _ _ _ rfl, h.flt]; rfl, by rw [hp_other _ _ _ _ (show (⟨g, 1, none⟩ : Addr).block ≠ mb from h.ne)]; exact h.mant, h.ne, h.ok, h.le, h.lec, h.max⟩
theorem Flt.setAcc {w : World} {g mb n c : Nat} {p m acc f E : Int} {neg : Bool} {Z : List Int} (h : Flt w g mb p m acc f neg n c E Z) (a : Int) : Flt (w.setCell ⟨g, 2, none⟩ (.int .i8 a)) g mb p m a f neg n c E Z :=
  ⟨by rw [hp_here _ _ _ _ _ rfl, h.flt]; rfl, by rw [hp_other _ _ _ _ (show (⟨g, 2, none⟩ : Addr).block ≠ mb from h.ne)]; exact h.mant, h.ne, h.ok, h.le, h.lec, h.max⟩
theorem Flt.setForm {w : World} {g mb n c : Nat} {p m acc f E : Int} {neg : Bool} {Z : List Int} (h : Flt w g mb p m acc f neg n c E Z) (a : Int) : Flt (w.setCell ⟨g, 3, none⟩ (.int .u8 a)) g mb p m acc a neg n c E Z :=
  ⟨by rw [hp_here _ _ _ _ _ rfl, h.flt]; rfl, by rw [hp_other _ _ _ _ (show (⟨g, 3, none⟩ : Addr).block ≠ mb from h.ne)]; exact h.mant, h.ne, h.ok, h.le, h.lec, h.max⟩
theorem Flt.setNeg {w : World} {g mb n c : Nat} {p m acc f E : Int} {neg : Bool} {Z : List Int} (h : Flt w g mb p m acc f neg n c E Z) (a : Bool) : Flt (w.setCell ⟨g, 4, none⟩ (.bool a)) g mb p m acc f a n c E Z :=
  ⟨by rw [hp_here _ _ _ _ _ rfl, h.flt]; rfl, by rw [hp_other _ _ _ _ (show (⟨g, 4, none⟩ : Addr).block ≠ mb from h.ne)]; exact h.mant, h.ne, h.ok, h.le, h.lec, h.max⟩
theorem Flt.setExp {w : World} {g mb n c : Nat} {p m acc f E : Int} {neg : Bool} {Z : List Int} (h : Flt w g mb p m acc f neg n c E Z) (a : Int) : Flt (w.setCell ⟨g, 6, none⟩ (.int .i32 a)) g mb p m acc f neg n c a Z :=
  ⟨by rw [hp_here _ _ _ _ _ rfl, h.flt]; rfl, by rw [hp_other _ _ _ _ (show (⟨g, 6, none⟩ : Addr).block ≠ mb from h.ne)]; exact h.mant, h.ne, h.ok, h.le, h.lec, h.max⟩
theorem Flt.setMant {w : World} {g mb n c : Nat} {p m acc f E : Int} {neg : Bool} {Z : List Int} (h : Flt w g mb p m acc f neg n c E Z) (n' c' : Nat) (h1 : n' ≤ Z.length) (h2 : n' ≤ c') : Flt (w.setCell ⟨g, 5, none⟩ (.slice (some ⟨mb, 0, none⟩) n' c')) g mb p m acc f neg n' c' E Z :=
  ⟨by rw [hp_here _ _ _ _ _ rfl, h.flt]; rfl, by rw [hp_other _ _ _ _ (show (⟨g, 5, none⟩ : Addr).block ≠ mb from h.ne)]; exact h.mant, h.ne, h.ok, h1, h2, h.max⟩
theorem Flt.setWord {w : World} {g mb n c : Nat} {p m acc f E : Int} {neg : Bool} {Z : List Int} (h : Flt w g mb p m acc f neg n c E Z) (i : Nat) (x : Int) (hx : 0 ≤ x ∧ x < BW) : Flt (w.setCell ⟨mb, i, none⟩ (.int .u64 x)) g mb p m acc f neg n c E (Z.set i x) :=
  ⟨by rw [hp_other _ _ _ _ (show (⟨mb, i, none⟩ : Addr).block ≠ g from fun e => h.ne e.symm)]; exact h.flt, by rw [hp_here _ _ _ _ _ rfl, h.mant]; simp only [Option.map_some, setObj_cells, u64s_set], h.ne, okd_set h.ok i hx.1 hx.2, by rw [List.length_set]; exact h.le, h.lec, by rw [List.length_set]; exact h.max⟩
theorem Flt.drew {w : World} {g mb n c : Nat} {p m acc f E : Int} {neg : Bool} {Z : List Int} (h : Flt w g mb p m acc f neg n c E Z) : Flt w.drew g mb p m acc f neg n c E Z := ⟨h.flt, h.mant, h.ne, h.ok, h.le, h.lec, h.max⟩
theorem Flt.word {w : World} {g mb n c : Nat} {p m acc f E : Int} {neg : Bool} {Z : List Int} (h : Flt w g mb p m acc f neg n c E Z) (i : Nat) (hi : i < Z.length) : w.cell? ⟨mb, i, none⟩ = some (.int .u64 (Z.getD i 0)) ∧ w.frozen? ⟨mb, i, none⟩ = false := ⟨(blk_cell h.mant i).trans (u64s_get _ i hi), blk_frozen h.mant i⟩
/-- The mantissa and the exponent behind rounding: a carry out of all bits moves the exponent. -/
def rmant (p : Nat) (q : Int) : Int := if q = 2 ^ p then 2 ^ (p - 1) else q
def rexp (p : Nat) (q E : Int) : Int := if q = 2 ^ p then E + 1 else E
/-- What 'round' leaves. -/
def RoundPost (w : World) (g mb p : Nat) (m : Int) (neg : Bool) (c : Nat) (E : Int) (L R : List Int) (sb : Bool) (e : Ending) (w' : World) : Prop :=
  e = .returned (.tuple #[]) ∧ Kept (On2 g mb) w w' ∧
  ((64 * L.length ≤ p ∧ Flt w' g mb p m 0 1 neg L.length c E (L ++ R)) ∨
   (p < 64 * L.length ∧ ∃ L2 R2, Flt w' g mb p m (rside neg m (ev BW L) (64 * L.length - p) sb) 1 neg L2.length c (rexp p (rq neg m (ev BW L) (64 * L.length - p) sb) E) (L2 ++ R2) ∧
     (L2 ++ R2).length = (L ++ R).length ∧ L2.length = (p + 63) / 64 ∧ ev BW L2 = rmant p (rq neg m (ev BW L) (64 * L.length - p) sb) * 2 ^ (64 * L2.length - p)))
theorem On2.l (g b : Nat) : On2 g b g := .inl rfl
theorem On2.r (g b : Nat) : On2 g b b := .inr rfl
theorem bit_or0 (s : Int) (h : s = 0 ∨ s = 1) : Go.bits .and .u64 s 1 = s := by rcases h with rfl | rfl <;> decide
set_option maxHeartbeats 64000000 in
set_option maxRecDepth 100000 in
theorem round_c (g mb p : Nat) (m acc : Int) (neg : Bool) (c : Nat) (E : Int) (L R : List Int) (sb : Bool) (s0 : Int) (w : World) (h : Flt w g mb p m acc 1 neg L.length c E (L ++ R)) (hp1 : 1 ≤ p ∧ p < 4294967296) (hm : 0 ≤ m ∧ m < 6) (hE : -2147483648 ≤ E ∧ E < 2147483647) (h0 : 0 < L.length) (hbig : L.length ≤ 1000000) (hs0 : s0 = if sb then 1 else 0) :
    Calls Tryz.prog 105 #[.pointer (some ⟨g, 0, none⟩), .int .u64 s0] w (RoundPost w g mb p m neg c E L R sb) := by
  obtain ⟨c0, c1, c2, c3, c4, c5, c6, f0, f1, f2, f3, f4, f5, f6⟩ := blk7 h.flt
  have H := Aside0.mk h
  have lg := hp_lt h.flt
  have HS := Aside0.mk hs0
  by_cases hle : 64 * L.length ≤ p
  · clear h hs0
    have hld : decide ((L.length : Int) * 64 ≤ (p : Int)) = true := decide_eq_true (by omega)
    go_enter Tryz.func105, Tryz.ntmps105
    go_wp2_with (fail)
    refine bodyPost_ret (results_none rfl _ _ _) rfl ?_
    exact ⟨rfl, (Kept.refl _ _).setCell (p := ⟨g, 2, none⟩) (.inl (On2.l g mb)) _, .inl ⟨hle, H.out.setAcc 0⟩⟩
  · have hld : decide ((L.length : Int) * 64 ≤ (p : Int)) = false := decide_eq_false (by omega)
    have hdiv := h.C
    rw [List.take_left' rfl] at hdiv
    have hok : okd BW L := (okd_append.1 h.ok).1
    obtain ⟨r, hr⟩ : ∃ r : Nat, r = 64 * L.length - p - 1 := ⟨_, rfl⟩
    obtain ⟨V, hV⟩ : ∃ V, V = ev BW L := ⟨_, rfl⟩
    obtain ⟨rb, hrb⟩ : ∃ rb, rb = V / 2 ^ r % 2 := ⟨_, rfl⟩
    obtain ⟨st, hst⟩ : ∃ st : Int, st = if V % 2 ^ r ≠ 0 then 1 else 0 := ⟨_, rfl⟩
    have HC := Aside0.mk hdiv
    have HOK := Aside0.mk hok
    have hbit : ∀ w, Kd.C (Kd.int .u64) w (some ⟨mb, 0, none⟩) L.length L → Calls Tryz.prog 128 #[.slice (some ⟨mb, 0, none⟩) L.length c, .int .u64 (r : Int)] w fun e w' => e = .returned (.int .u64 rb) ∧ w = w' := fun w hc => by
      have := bit_w (some ⟨mb, 0, none⟩) c L r w hc h.lec (by omega) hok (by omega)
      rwa [← hV, ← hrb] at this
    have hsti : ∀ w, Kd.C (Kd.int .u64) w (some ⟨mb, 0, none⟩) L.length L → Calls Tryz.prog 129 #[.slice (some ⟨mb, 0, none⟩) L.length c, .int .u64 (r : Int)] w fun e w' => e = .returned (.int .u64 st) ∧ w = w' := fun w hc => by
      have := sticky_w (some ⟨mb, 0, none⟩) c L r w hc h.lec (by omega) hok (by omega)
      rwa [← hV, ← hst] at this
    have HBIT := Aside0.mk hbit
    have HSTI := Aside0.mk hsti
    have HST := Aside0.mk hst
    have HV := Aside0.mk hV
    have HRB := Aside0.mk hrb
    have HK1 : Aside0 (Kept (On2 g mb) w (w.setCell ⟨g, 2, none⟩ (.int .i8 0))) := ⟨(Kept.refl _ _).setCell (p := ⟨g, 2, none⟩) (.inl (On2.l g mb)) _⟩
    have H1 := Aside0.mk (h.setAcc 0)
    have HC1 : Aside0 (Kd.C (Kd.int .u64) (w.setCell ⟨g, 2, none⟩ (.int .i8 0)) (some ⟨mb, 0, none⟩) L.length L) := ⟨by have := H1.out.C; rwa [List.take_left' rfl] at this⟩
    have hrI : (L.length : Int) * 64 - (p : Int) - 1 = (r : Int) := by omega
    have hrb01 : rb = 0 ∨ rb = 1 := by omega
    have hrr : Go.bits .and .u64 rb 1 = rb := bit_or0 rb hrb01
    have hs01 : s0 = 0 ∨ s0 = 1 := by rw [hs0]; cases sb <;> simp
    have hst01 : st = 0 ∨ st = 1 := by rw [hst]; split <;> simp
    have hrl : r < 64 * L.length := by omega
    have hrle : (r : Int) < 64 * (L.length : Int) := by omega
    have HR := Aside0.mk hr
    obtain ⟨n, hn⟩ : ∃ n : Nat, n = (p + 63) / 64 := ⟨_, rfl⟩
    have hnI : ((p : Int) + 63) / 64 = (n : Int) := by omega
    obtain ⟨k, hk⟩ : ∃ k : Nat, k = L.length - n := ⟨_, rfl⟩
    have hkn : L.length = k + n := by omega
    have hn0 : 0 < n := by omega
    have HN := Aside0.mk hn
    have HK := Aside0.mk hkn
    have hkI : (L.length : Int) - (n : Int) = (k : Int) := by omega
    clear hdiv hok hbit hsti hV hrb hst h hs0 hr H hn hk hkn
    go_enter Tryz.func105, Tryz.ntmps105
    go_upto_region 7 with (first | (go_at_call 128; refine (HBIT.out _ HC1.out).mono ?_; rintro e w' ⟨rfl, rfl⟩))
    obtain ⟨w1, hw1⟩ : ∃ w1, w1 = w.setCell ⟨g, 2, none⟩ (.int .i8 0) := ⟨_, rfl⟩
    rw [← hw1] at HK1 H1 HC1 ⊢
    clear hw1 c0 c1 c2 c3 c4 c5 c6 f0 f1 f2 f3 f4 f5 f6
    obtain ⟨c0, c1, c2, c3, c4, c5, c6, f0, f1, f2, f3, f4, f5, f6⟩ := blk7 H1.out.flt
    go_cut [61] (fun v wx => ∃ b : Bool, v = .bool b ∧ Aside0 (b = true ↔ s0 = 0 ∧ (rb = 0 ∨ m = 0)) ∧ w1 = wx)
    case first => as_aux_lemma =>
      rcases hs01 with rfl | rfl
      · rcases hrb01 with rfl | rfl
        · go_wp2_with (fail)
          go_meet
          exact ⟨true, rfl, ⟨by simp⟩, rfl⟩
        · by_cases hm0 : m = 0
          · subst hm0
            go_wp2_with (fail)
            go_meet
            exact ⟨true, rfl, ⟨by simp⟩, rfl⟩
          · have hmb : (m == 0) = false := by rw [beq_eq_false_iff_ne]; exact hm0
            have HM0 := Aside0.mk hm0
            clear hm0
            go_wp2_with (fail)
            go_meet
            exact ⟨false, rfl, ⟨by have := HM0.out; simp; exact this⟩, rfl⟩
      · go_wp2_with (fail)
        go_meet
        exact ⟨false, rfl, ⟨by simp⟩, rfl⟩
    case rest =>
      obtain ⟨b, rfl, HB, rfl⟩ := hcut
      go_upto_if 61 with fail
      go_cut [1] (fun v wx => ∃ s : Int, v = .int .u64 s ∧ (s = 0 ∨ s = 1) ∧ Aside0 (left V (r + 1) sb = 2 * rb + s ∨ (rb = 1 ∧ m ≠ 0)) ∧ w1 = wx)
      case first => as_aux_lemma =>
        have HL : Aside0 (∀ s : Int, s = (if V % 2 ^ r ≠ 0 ∨ sb = true then 1 else 0) → left V (r + 1) sb = 2 * rb + s) := ⟨fun s h => by
          unfold left
          rw [if_neg (by omega), Nat.add_sub_cancel, HRB.out, h]⟩
        cases b with
        | true =>
          obtain ⟨h1, h2⟩ := HB.out.1 rfl
          have hsb : sb = false := by
            have := HS.out
            rw [h1] at this
            cases sb with
            | false => rfl
            | true => simp at this
          have HG : Aside0 (left V (r + 1) sb = 2 * rb + st ∨ (rb = 1 ∧ m ≠ 0)) := ⟨.inl (HL.out st (by rw [HST.out, hsb]; simp))⟩
          clear h1 h2 hsb
          go_wp2_with (go_at_call 129; refine (HSTI.out _ HC1.out).mono ?_; rintro e w' ⟨rfl, rfl⟩)
          go_meet
          exact ⟨st, rfl, hst01, HG, rfl⟩
        | false =>
          have HG : Aside0 (left V (r + 1) sb = 2 * rb + s0 ∨ (rb = 1 ∧ m ≠ 0)) := ⟨by
            by_cases h1 : s0 = 0
            · right
              have h2 : ¬ (rb = 0 ∨ m = 0) := fun h => absurd (HB.out.2 ⟨h1, h⟩) (by simp)
              exact ⟨by omega, fun h => h2 (.inr h)⟩
            · left
              refine HL.out s0 ?_
              have h2 : sb = true := by
                have := HS.out
                cases sb with
                | true => rfl
                | false => simp at this; exact absurd this h1
              rw [h2]
              simp
              omega⟩
          go_wp2_with (fail)
          go_meet
          exact ⟨s0, rfl, hs01, HG, rfl⟩
      case rest =>
        obtain ⟨s, rfl, hs, HSS, rfl⟩ := hcut
        have hss : Go.bits .and .u64 s 1 = s := bit_or0 s hs
        go_upto_if 78 with fail
        simp only [hnI]
        go_cut [8] (fun v wx => v = .int .u32 (n : Int) ∧ ∃ R1, (L.drop k ++ R1).length = (L ++ R).length ∧ Aside0 (Flt wx g mb p m 0 1 neg n c E (L.drop k ++ R1)) ∧ Aside0 (Kept (On2 g mb) w wx))
        case first => as_aux_lemma =>
          -- [[
          by_cases hk0 : k = 0
          · have hdk : decide ((n : Int) < (L.length : Int)) = false := decide_eq_false (by have := HK.out; omega)
            have hnL : n = L.length := by have := HK.out; omega
            have HF : Aside0 (Flt w1 g mb p m 0 1 neg n c E (L.drop k ++ R)) := ⟨by rw [hk0, hnL]; exact H1.out⟩
            clear H1
            go_wp2_with (fail)
            go_meet
            exact ⟨rfl, R, by rw [hk0, List.drop_zero], HF, HK1⟩
          · have hdk : decide ((n : Int) < (L.length : Int)) = true := decide_eq_true (by have := HK.out; omega)
            go_wp2_with (fail)
            have hck : ¬ c = k := by have := HK.out; have := H1.out.lec; omega
            have hcs := C_sub HC1.out k n (by rw [HK.out]; omega)
            have e1 : (L.drop k).take n = L.drop k := List.take_of_length_le (by rw [List.length_drop, HK.out]; omega)
            rw [e1, add_spot, Nat.zero_add] at hcs
            have HCS := Aside0.mk hcs
            have hld2 : (L.drop k).length = n := by rw [List.length_drop, HK.out]; omega
            have hkw : IntKind.u32.wrap (k : Int) = (k : Int) := by rw [IntKind.wrap_u32']; have := HK.out; omega
            have hkl : k ≤ L.length := by have := HK.out; omega
            have hln : L.length - k = n := by have := HK.out; omega
            have hn1 : ((L.drop k).map (Value.int .u64)).length = Nat.min n L.length := by rw [List.length_map, List.length_drop, hln]; exact (Nat.min_eq_left (by omega)).symm
            have hn2 : 0 < ((L.drop k).map (Value.int .u64)).length → (some ⟨mb, 0, none⟩ : Option Addr) = some ⟨mb, 0, none⟩ ∧ ∃ ad, (some ⟨mb, k, none⟩ : Option Addr) = some ad ∧ ∀ j v, ((L.drop k).map (Value.int .u64))[j]? = some v → w1.drew.cell? (ad.add j) = some v := fun _ => ⟨rfl, _, rfl, fun j v hv => copy_src (w := w1.drew) HCS.out j v hv⟩
            have hn3 : 0 + ((L.drop k).map (Value.int .u64)).length ≤ ((L ++ R).map (Value.int .u64)).length := by simp; omega
            have hn4 : ∀ v ∈ (L.drop k).map (Value.int .u64), v.oneCell' = true := fun v hv => copy_one v hv
            have HN1 := Aside0.mk hn1
            have HN2 := Aside0.mk hn2
            have HN3 := Aside0.mk hn3
            have HN4 := Aside0.mk hn4
            clear hcs e1 hn1 hn2 hn3 hn4
            refine start_ (n := 13) (S := fun w' => w'.cell? ⟨g, 5, none⟩ = some (.slice (some ⟨mb, 0, none⟩) L.length c)) (ds := []) #[false, false, false, false, false, false, false, false, false, false, false, false, false] (by kernel_rfl) rfl rfl ((by go_simp)) (fun hHeld => ?_)
            refine pure_ (i := 0) (N := some 79) (v := ?_) (a' := ?_) #[true, false, false, false, false, false, false, false, false, false, false, false, false] rfl rfl (by kernel_rfl) (fun _ _ _ h => h) (Or.inl ⟨by rfl, ?_⟩) ?_ ?_
            rotate_left
            · intro w'
              go_simp
              with_reducible rfl
            rotate_left
            · simp only [Act.put, List.setIfInBounds_toArray, List.set_cons_zero, List.set_cons_succ, i64_w, i32_w]
              rfl
            refine pure_ (i := 1) (N := some 80) (v := ?_) (a' := ?_) #[true, true, false, false, false, false, false, false, false, false, false, false, false] rfl rfl (by kernel_rfl) (fun _ _ _ h => h) (Or.inl ⟨by rfl, ?_⟩) ?_ ?_
            rotate_left
            · intro w'
              go_simp
              with_reducible rfl
            rotate_left
            · simp only [Act.put, List.setIfInBounds_toArray, List.set_cons_zero, List.set_cons_succ, i64_w, i32_w]
              rfl
            refine pure_ (i := 2) (N := some 81) (v := ?_) (a' := ?_) #[true, true, true, false, false, false, false, false, false, false, false, false, false] rfl rfl (by kernel_rfl) (fun _ _ _ h => h) (Or.inl ⟨by rfl, ?_⟩) ?_ ?_
            rotate_left
            · intro w'
              go_simp
              with_reducible rfl
            rotate_left
            · simp only [Act.put, List.setIfInBounds_toArray, List.set_cons_zero, List.set_cons_succ, i64_w, i32_w]
              rfl
            refine pure_ (i := 4) (N := some 83) (v := ?_) (a' := ?_) #[true, true, true, false, true, false, false, false, false, false, false, false, false] rfl rfl (by kernel_rfl) (fun _ _ _ h => h) (Or.inl ⟨by rfl, ?_⟩) ?_ ?_
            rotate_left
            · intro w'
              go_simp
              with_reducible rfl
            rotate_left
            · simp only [Act.put, List.setIfInBounds_toArray, List.set_cons_zero, List.set_cons_succ, i64_w, i32_w]
              rfl
            refine pure_ (i := 5) (N := some 84) (v := ?_) (a' := ?_) #[true, true, true, false, true, true, false, false, false, false, false, false, false] rfl rfl (by kernel_rfl) (fun _ _ _ h => h) (Or.inl ⟨by rfl, ?_⟩) ?_ ?_
            rotate_left
            · intro w'
              go_simp
              with_reducible rfl
            rotate_left
            · simp only [Act.put, List.setIfInBounds_toArray, List.set_cons_zero, List.set_cons_succ, i64_w, i32_w]
              rfl
            refine pure_ (i := 6) (N := some 85) (v := ?_) (a' := ?_) #[true, true, true, false, true, true, true, false, false, false, false, false, false] rfl rfl (by kernel_rfl) (fun _ _ _ h => h) (Or.inl ⟨by rfl, ?_⟩) ?_ ?_
            rotate_left
            · intro w'
              go_simp
              with_reducible rfl
            rotate_left
            · simp only [Act.put, List.setIfInBounds_toArray, List.set_cons_zero, List.set_cons_succ, i64_w, i32_w]
              rfl
            refine pure_ (i := 8) (N := some 87) (v := ?_) (a' := ?_) #[true, true, true, false, true, true, true, false, true, false, false, false, false] rfl rfl (by kernel_rfl) (fun _ _ _ h => h) (Or.inl ⟨by rfl, ?_⟩) ?_ ?_
            rotate_left
            · intro w'
              go_simp
              with_reducible rfl
            rotate_left
            · simp only [Act.put, List.setIfInBounds_toArray, List.set_cons_zero, List.set_cons_succ, i64_w, i32_w]
              rfl
            refine pure_ (i := 9) (N := some 88) (v := ?_) (a' := ?_) #[true, true, true, false, true, true, true, false, true, true, false, false, false] rfl rfl (by kernel_rfl) (fun _ _ _ h => h) (Or.inl ⟨by rfl, ?_⟩) ?_ ?_
            rotate_left
            · intro w'
              go_simp
              with_reducible rfl
            rotate_left
            · simp only [Act.put, List.setIfInBounds_toArray, List.set_cons_zero, List.set_cons_succ, i64_w, i32_w]
              rfl
            refine pure_ (i := 10) (N := some 89) (v := ?_) (a' := ?_) #[true, true, true, false, true, true, true, false, true, true, true, false, false] rfl rfl (by kernel_rfl) (fun _ _ _ h => h) (Or.inl ⟨by rfl, ?_⟩) ?_ ?_
            rotate_left
            · intro w'
              go_simp
              with_reducible rfl
            rotate_left
            · simp only [Act.put, List.setIfInBounds_toArray, List.set_cons_zero, List.set_cons_succ, i64_w, i32_w]
              rfl
            refine take_ (i := 3) (N := some 82) (v := ?_) (a' := ?_) #[true, true, true, true, true, true, true, false, true, true, true, false, false] rfl rfl (by kernel_rfl) (fun _ _ _ h => h) (Or.inl ⟨by rfl, ?_⟩) hHeld ?_ ?_
            rotate_left
            · intro w' s0
              go_simp
              with_reducible rfl
            rotate_left
            · simp only [Act.put, List.setIfInBounds_toArray, List.set_cons_zero, List.set_cons_succ, i64_w, i32_w]
              rfl
            refine take_ (i := 7) (N := some 86) (v := ?_) (a' := ?_) #[true, true, true, true, true, true, true, true, true, true, true, false, false] rfl rfl (by kernel_rfl) (fun _ _ _ h => h) (Or.inl ⟨by rfl, ?_⟩) hHeld ?_ ?_
            rotate_left
            · intro w' s0
              go_simp
              with_reducible rfl
            rotate_left
            · simp only [Act.put, List.setIfInBounds_toArray, List.set_cons_zero, List.set_cons_succ, i64_w, i32_w]
              rfl
            refine pure_ (i := 11) (N := some 90) (v := ?_) (a' := ?_) #[true, true, true, true, true, true, true, true, true, true, true, true, false] rfl rfl (by kernel_rfl) (fun _ _ _ h => h) (Or.inl ⟨by rfl, ?_⟩) ?_ ?_
            rotate_left
            · intro w'
              go_simp
              with_reducible rfl
            rotate_left
            · simp only [Act.put, List.setIfInBounds_toArray, List.set_cons_zero, List.set_cons_succ, i64_w, i32_w]
              rfl
            refine one_ (i := 12) (N := some 91) #[true, true, true, true, true, true, true, true, true, true, true, true, true] rfl rfl (by kernel_rfl) (by decide) (fun K hK => ?_)
            refine step_copy_kept rfl (.tmp 82) (.tmp 90) 81 81 rfl 108 Tryz.underlying81 (by kernel_rfl) (some ⟨mb, 0, none⟩) (some ⟨mb, k, none⟩) L.length c n (c - k) rfl rfl mb 0 ((L ++ R).map (Value.int .u64)) 108 H1.out.mant ((L.drop k).map (Value.int .u64)) HN1.out HN2.out HN3.out HN4.out ?_
            intro w2 hm2 HK2
            have q0 := HK2.out.cell (p := ⟨g, 5, none⟩) hHeld H1.out.ne
            refine hK.out _ _ (q0) (fun hHeld => ?_)
            clear hK K
            refine norm_ (a' := ?_) ?_ ?_
            rotate_left
            · show Act.put _ (some 91) _ = _
              simp only [Act.put, List.setIfInBounds_toArray, List.set_cons_zero, List.set_cons_succ, i64_w, i32_w]
              rfl
            refine done_ (by kernel_rfl) ?_
            have hF2 : Flt w2 g mb p m 0 1 neg L.length c E (L.drop k ++ (L ++ R).drop n) := by
              refine ⟨hp_kept (show hp w1.drew g = _ from H1.out.flt) HK2.out H1.out.ne, ?_, H1.out.ne, ?_, ?_, H1.out.lec, ?_⟩
              · refine (show hp w2 mb = _ from hm2.out).trans ?_
                rw [laid_u64]
                unfold laid
                rw [List.take_zero, List.nil_append, Nat.zero_add, hld2]
              · exact okd_append.2 ⟨okd_drop HOK.out k, okd_drop H1.out.ok n⟩
              · simp; omega
              · have := H1.out.max
                simp at this ⊢
                omega
            have HF2 := Aside0.mk hF2
            have HK3 : Aside0 (Kept (On2 g mb) w w2) := ⟨(HK1.out.drew).trans HK2.out (fun i _ hi => .inr hi)⟩
            have HLL : Aside0 ((L.drop k ++ (L ++ R).drop n).length = (L ++ R).length) := ⟨by simp; omega⟩
            clear hm2 HK2 HN1 HN2 HN3 HN4 HCS c0 c1 c2 c3 c4 c5 c6 f0 f1 f2 f3 f4 f5 f6
            obtain ⟨c0, c1, c2, c3, c4, c5, c6, f0, f1, f2, f3, f4, f5, f6⟩ := blk7 hF2.flt
            have hnc : n ≤ c := by have := HK.out; have := HF2.out.lec; omega
            have hnw : IntKind.u32.wrap (n : Int) = (n : Int) := by rw [IntKind.wrap_u32']; have := HK.out; omega
            clear hF2
            go_wp2_with (fail)
            go_meet
            exact ⟨rfl, _, HLL.out, ⟨HF2.out.setMant n c (by rw [HLL.out, List.length_append]; have := HK.out; omega) (by have := HK.out; have := HF2.out.lec; omega)⟩, ⟨HK3.out.setCell (p := ⟨g, 5, none⟩) (.inl (On2.l g mb)) _⟩⟩
          -- ]]
        case rest =>
          obtain ⟨rfl, R1, hlR, HF1, HK2⟩ := hcut
          clear HBIT HSTI H1 HC1 HK1 c0 c1 c2 c3 c4 c5 c6 f0 f1 f2 f3 f4 f5 f6
          obtain ⟨w2, hw2⟩ : ∃ w2, w2 = wc := ⟨_, rfl⟩
          rw [← hw2] at HF1 HK2 ⊢
          clear hw2
          obtain ⟨c0, c1, c2, c3, c4, c5, c6, f0, f1, f2, f3, f4, f5, f6⟩ := blk7 HF1.out.flt
          obtain ⟨z, hz⟩ : ∃ z : Nat, z = 64 * n - p := ⟨_, rfl⟩
          have hzI : (n : Int) * 64 - (p : Int) = (z : Int) := by have := HN.out; omega
          have hz64 : z < 64 := by have := HN.out; omega
          have HZ := Aside0.mk hz
          clear hz
          obtain ⟨X, hX⟩ : ∃ X, X = L.drop k := ⟨_, rfl⟩
          rw [← hX] at hlR HF1
          have hXl : X.length = n := by rw [hX, List.length_drop, HK.out]; omega
          have hXok : okd BW X := by rw [hX]; exact okd_drop HOK.out k
          obtain ⟨lsb, hlsb⟩ : ∃ lsb : Int, lsb = 2 ^ z := ⟨_, rfl⟩
          have hlsbr : 1 ≤ lsb ∧ lsb < BW := by
            rw [hlsb]
            refine ⟨tp z, ?_⟩
            have h1 : (2 : Int) ^ z ≤ 2 ^ 63 := pow_mono (by omega) (by omega)
            have := BW_def
            rw [show (2 : Int) ^ 63 = 9223372036854775808 from rfl] at h1
            omega
          have hlw : IntKind.u64.wrap ((2 : Int) ^ z) = lsb := by rw [← hlsb, IntKind.wrap_u64]; have := BW_def; omega
          obtain ⟨d, hd⟩ : ∃ d : Nat, d = 64 * L.length - p := ⟨_, rfl⟩
          have hd2 : d = 64 * k + z := by have := HK.out; have := HZ.out; have := HN.out; omega
          have hdr : d = r + 1 := by have := HR.out; omega
          obtain ⟨od, hod⟩ : ∃ od, od = decide (V / 2 ^ d % 2 = 1) := ⟨_, rfl⟩
          obtain ⟨lf, hlf⟩ : ∃ lf, lf = left V d sb := ⟨_, rfl⟩
          have HL2 : Aside0 (∃ u : Int, (u = 0 ∨ u = 1) ∧ lf = 2 * rb + u) := ⟨by
            rw [hlf, hdr]
            unfold left
            rw [if_neg (by omega), Nat.add_sub_cancel, HRB.out]
            split
            · exact ⟨1, .inr rfl, rfl⟩
            · exact ⟨0, .inl rfl, rfl⟩⟩
          have HLF : Aside0 (lf = 2 * rb + s ∨ (rb = 1 ∧ m ≠ 0)) := ⟨by rw [hlf, hdr]; exact HSS.out⟩
          -- what the statement leaves, by the decision that it takes
          have HNo : Aside0 (up neg od lf m = false → ev BW (X.set 0 (X.getD 0 0 - X.getD 0 0 % 2 ^ z)) = rmant p (rq neg m V d sb) * 2 ^ z ∧ rexp p (rq neg m V d sb) E = E) := ⟨fun hu => by
            have e1 : rq neg m V d sb = V / 2 ^ d := by unfold rq; rw [← hlf, ← hod, hu]; simp
            have hlt : V / 2 ^ d < 2 ^ p := by
              have h1 := ev_lt HOK.out BW_pos
              apply Int.ediv_lt_of_lt_mul (tp d)
              rw [← Int.pow_add, HV.out]
              have h2 : BW ^ L.length = 2 ^ (p + d) := by rw [BW_two, ← Int.pow_mul]; congr 1; omega
              omega
            constructor
            · rw [hX, rnd_cut HOK.out k n z hn0 HK.out (by omega), ← hd2, ← HV.out, e1]
              unfold rmant
              rw [if_neg (by omega)]
            · unfold rexp
              rw [e1, if_neg (by omega)]⟩
          have HUp : Aside0 (up neg od lf m = true → rq neg m V d sb = V / 2 ^ d + 1) := ⟨fun hu => by unfold rq; rw [← hlf, ← hod, hu]; simp⟩
          have HSide : Aside0 (∀ b, 0 < lf → up neg od lf m = b → rside neg m V d sb = if b != neg then 1 else -1) := ⟨fun b hl hu => by unfold rside; rw [← hlf, ← hod, hu, if_neg (by omega)]⟩
          have HS0 : Aside0 (lf = 0 → up neg od lf m = false ∧ rside neg m V d sb = 0) := ⟨fun h0 => ⟨by rw [h0, up_zero], by unfold rside; rw [← hlf, if_pos h0]⟩⟩
          have HOD : Aside0 (od = decide (X.getD 0 0 / lsb % 2 = 1)) := ⟨by
            have h1 := bit_word (ev BW X) 0 z hz64
            rw [ev_dg hXok, Nat.mul_zero, Nat.zero_add, hX, ev_div HOK.out BW_pos k (by rw [HK.out]; omega), shift_all, ← hd2, ← HV.out, ← hX, ← hlsb] at h1
            rw [hod, h1]⟩
          have HX := Aside0.mk hX
          have HXL := Aside0.mk hXl
          have HXO := Aside0.mk hXok
          have HLS := Aside0.mk hlsb
          have HDD := Aside0.mk hd
          have HD2 := Aside0.mk hd2
          clear hX hXl hXok hlsb hd hd2 hdr hod hlf
          go_upto_if 113 with fail
          go_cut [11] (fun v wx => ∃ X2 R2, (X2 ++ R2).length = (L ++ R).length ∧ X2.length = n ∧ Aside0 (Flt wx g mb p m (rside neg m V d sb) 1 neg n c (rexp p (rq neg m V d sb) E) (X2 ++ R2)) ∧ Aside0 (Kept (On2 g mb) w wx) ∧ Aside0 (ev BW (X2.set 0 (X2.getD 0 0 - X2.getD 0 0 % 2 ^ z)) = rmant p (rq neg m V d sb) * 2 ^ z))
          case first =>
            by_cases hz0 : rb = 0 ∧ s = 0
            · as_aux_lemma =>
              obtain ⟨rfl, rfl⟩ := hz0
              have hl0 := HS0.out (by rcases HLF.out with h | h <;> omega)
              have hno := HNo.out hl0.1
              have HFF : Aside0 (Flt w2 g mb p m (rside neg m V d sb) 1 neg n c (rexp p (rq neg m V d sb) E) (X ++ R1)) := ⟨by rw [hl0.2, hno.2]; exact HF1.out⟩
              have HEV := Aside0.mk hno.1
              have hor : Go.bits .or .u64 0 0 = 0 := by decide
              clear hno hl0
              go_wp2_with (fail)
              go_meet
              exact ⟨X, R1, hlR, HXL.out, HFF, HK2, HEV⟩
            · have hlpos : 0 < lf := by obtain ⟨u, hu, hl⟩ := HL2.out; rcases HLF.out with h | h <;> omega
              have hor : (Go.bits .or .u64 rb s != 0) = true := by rcases hrb01 with rfl | rfl <;> rcases hs with rfl | rfl <;> first | (exact absurd ⟨rfl, rfl⟩ hz0) | decide
              have HLP := Aside0.mk hlpos
              clear hlpos
              go_upto_block 0 with fail
              go_cut [11] (fun v wx => v = .bool (up neg od lf m) ∧ w2 = wx)
              case first =>
                have hx0 := (HF1.out.word 0 (by have := HF1.out.le; omega)).1
                have e0 : (X ++ R1).getD 0 0 = X.getD 0 0 := by simp only [List.getD_eq_getElem?_getD]; rw [List.getElem?_append_left (by rw [HXL.out]; exact hn0)]
                rw [e0] at hx0
                obtain ⟨x, hx⟩ : ∃ x, x = X.getD 0 0 := ⟨_, rfl⟩
                rw [← hx] at hx0
                have hxr := okd_get HXO.out BW_pos 0
                rw [← hx] at hxr
                have hand : (Go.bits .and .u64 x lsb != 0) = od := by
                  have h1 := HOD.out
                  rw [← hx] at h1
                  have e2 := BW_def
                  rw [u64_and _ _ hxr.1 (by omega) (by omega) (by omega)]
                  have h2 : lsb.toNat = 2 ^ z := by rw [HLS.out]; exact_mod_cast rfl
                  rw [h2, nat_bit]
                  have h3 : (x / lsb % 2 : Int) = ((x.toNat / 2 ^ z % 2 : Nat) : Int) := by
                    rw [HLS.out]
                    push_cast
                    rw [Int.toNat_of_nonneg hxr.1]
                  rw [h1, h3]
                  have h4 : 0 < 2 ^ z := Nat.two_pow_pos z
                  obtain ⟨y, hy⟩ : ∃ y, y = x.toNat / 2 ^ z % 2 := ⟨_, rfl⟩
                  have hy2 : y = 0 ∨ y = 1 := by omega
                  rw [← hy]
                  rcases hy2 with rfl | rfl
                  · simp
                  · have h5 : (((1 * 2 ^ z : Nat) : Int) != 0) = true := by rw [bne_iff_ne]; omega
                    rw [h5]; rfl
                clear hx hxr e0
                -- [[
                obtain rfl | rfl | rfl | rfl | rfl | rfl : m = 0 ∨ m = 1 ∨ m = 2 ∨ m = 3 ∨ m = 4 ∨ m = 5 := by omega
                · as_aux_lemma =>
                  have hl : lf = 2 * rb + s := by rcases HLF.out with h | h <;> omega
                  have HU : Aside0 (up neg od lf 0 = (decide (rb = 1) && (decide (s = 1) || od))) := ⟨by
                    unfold Dig.up
                    rw [hl]
                    rcases hrb01 with rfl | rfl <;> rcases hs with rfl | rfl <;> simp⟩
                  clear hl hor
                  rcases hrb01 with rfl | rfl
                  · go_wp2_with (fail)
                    go_meet
                    exact ⟨by rw [HU.out]; rfl, rfl⟩
                  · rcases hs with rfl | rfl
                    · go_wp2_with (fail)
                      go_meet
                      exact ⟨by rw [HU.out]; simp, rfl⟩
                    · go_wp2_with (fail)
                      go_meet
                      exact ⟨by rw [HU.out]; rfl, rfl⟩
                · as_aux_lemma =>
                  have HU : Aside0 (up neg od lf 1 = decide (rb = 1)) := ⟨by
                    obtain ⟨u, hu, hl⟩ := HL2.out
                    unfold Dig.up
                    rw [hl]
                    rcases hrb01 with rfl | rfl <;> rcases hu with rfl | rfl <;> simp⟩
                  clear hor
                  rcases hrb01 with rfl | rfl
                  · go_wp2_with (fail)
                    go_meet
                    exact ⟨by rw [HU.out]; rfl, rfl⟩
                  · go_wp2_with (fail)
                    go_meet
                    exact ⟨by rw [HU.out]; rfl, rfl⟩
                · as_aux_lemma =>
                  have HU : Aside0 (up neg od lf 2 = false) := ⟨by unfold Dig.up; simp⟩
                  clear hor
                  go_wp2_with (fail)
                  go_meet
                  exact ⟨by rw [HU.out], rfl⟩
                · as_aux_lemma =>
                  have HU : Aside0 (up neg od lf 3 = true) := ⟨by unfold Dig.up; simp; exact HLP.out⟩
                  clear hor
                  go_wp2_with (fail)
                  go_meet
                  exact ⟨by rw [HU.out], rfl⟩
                · as_aux_lemma =>
                  have HU : Aside0 (up neg od lf 4 = neg) := ⟨by unfold Dig.up; simp [HLP.out]⟩
                  clear hor
                  go_wp2_with (fail)
                  go_meet
                  exact ⟨by rw [HU.out], rfl⟩
                · as_aux_lemma =>
                  have HU : Aside0 (up neg od lf 5 = !neg) := ⟨by unfold Dig.up; simp [HLP.out]⟩
                  clear hor
                  go_wp2_with (fail)
                  go_meet
                  exact ⟨by rw [HU.out], rfl⟩
                -- ]]
              case rest =>
                obtain ⟨rfl, rfl⟩ := hcut
                obtain ⟨b, hb⟩ : ∃ b, b = up neg od lf m := ⟨_, rfl⟩
                have HBB := Aside0.mk hb
                rw [← hb]
                have HSD := Aside0.mk (HSide.out b HLP.out hb.symm)
                have hlen0 : n ≤ (X ++ R1).length := HF1.out.le
                clear hb hor
                cases b with
                | false =>
                  -- [[
                  have hno := HNo.out HBB.out.symm
                  have HEV := Aside0.mk hno.1
                  cases neg with
                  | false => as_aux_lemma =>
                    have HFF : Aside0 (Flt (w2.setCell ⟨g, 2, none⟩ (.int .i8 (-1))) g mb p m (rside false m V d sb) 1 false n c (rexp p (rq false m V d sb) E) (X ++ R1)) := ⟨by rw [hno.2, HSD.out]; exact HF1.out.setAcc _⟩
                    clear hno
                    go_wp2_with (go_in)
                    go_meet
                    exact ⟨X, R1, hlR, HXL.out, HFF, ⟨HK2.out.setCell (p := ⟨g, 2, none⟩) (.inl (On2.l g mb)) _⟩, HEV⟩
                  | true => as_aux_lemma =>
                    have HFF : Aside0 (Flt (w2.setCell ⟨g, 2, none⟩ (.int .i8 1)) g mb p m (rside true m V d sb) 1 true n c (rexp p (rq true m V d sb) E) (X ++ R1)) := ⟨by rw [hno.2, HSD.out]; exact HF1.out.setAcc _⟩
                    clear hno
                    go_wp2_with (go_in)
                    go_meet
                    exact ⟨X, R1, hlR, HXL.out, HFF, ⟨HK2.out.setCell (p := ⟨g, 2, none⟩) (.inl (On2.l g mb)) _⟩, HEV⟩
                  -- ]]
                | true =>
                  obtain ⟨ac, hac⟩ : ∃ ac : Int, ac = if true != neg then 1 else -1 := ⟨_, rfl⟩
                  rw [← hac] at HSD
                  have hmk : ∀ w, Calls Tryz.prog 104 #[.bool (!neg)] w fun e w' => e = .returned (.int .i8 ac) ∧ w = w' := fun w => by
                    subst hac
                    clear c0 c1 c2 c3 c4 c5 c6 f0 f1 f2 f3 f4 f5 f6
                    cases neg with
                    | false =>
                      go_enter Tryz.func104, Tryz.ntmps104
                      go_wp2_with (fail)
                      go_ret
                      exact ⟨rfl, rfl⟩
                    | true =>
                      go_enter Tryz.func104, Tryz.ntmps104
                      go_wp2_with (fail)
                      go_ret
                      exact ⟨rfl, rfl⟩
                  have HMK := Aside0.mk hmk
                  clear hac hmk
                  go_wp2_with (go_at_call 104; refine (HMK.out _).mono ?_; rintro e w' ⟨rfl, rfl⟩)
                  have hF3 := HF1.out.setAcc ac
                  have hK3 := HK2.out.setCell (p := ⟨g, 2, none⟩) (.inl (On2.l g mb)) (.int .i8 ac)
                  obtain ⟨w3, hw3⟩ : ∃ w3, w3 = w2.setCell ⟨g, 2, none⟩ (.int .i8 ac) := ⟨_, rfl⟩
                  rw [← hw3] at hF3 hK3 ⊢
                  have HF3 := Aside0.mk hF3
                  have HK3 := Aside0.mk hK3
                  have HE := Aside0.mk hE
                  clear hw3 c0 c1 c2 c3 c4 c5 c6 f0 f1 f2 f3 f4 f5 f6 hF3 hK3 HMK HF1 HK2
                  obtain ⟨c0, c1, c2, c3, c4, c5, c6, f0, f1, f2, f3, f4, f5, f6⟩ := blk7 HF3.out.flt
                  have lg3 := hp_lt HF3.out.flt
                  have hadd : ∀ W, hp W mb = some (.cells (u64s (X ++ R1)) 108 (0, 0)) → Calls Tryz.prog 113 #[.slice (some ⟨mb, 0, none⟩) n c, .slice (some ⟨mb, 0, none⟩) n c, .int .u64 lsb] W (ShiftPost W mb 0 (X ++ R1) n (ev BW X + lsb) (cy X lsb n) 108) := fun W hW => by
                    have := addVW_c mb c X R1 lsb 108 W hW (by rw [HXL.out]; exact hn0) (by rw [HXL.out]; have := HK.out; omega) HXO.out ⟨by omega, hlsbr.2⟩
                    rwa [HXL.out] at this
                  have HADD := Aside0.mk hadd
                  have hcy := cy_ok HXO.out (y := lsb) (by omega) hlsbr.2 n
                  have hcyd := cy_div HXO.out lsb n
                  rw [Int.ediv_eq_zero_of_lt (ev_nonneg HXO.out BW_pos) (by have := ev_lt HXO.out BW_pos; rwa [HXL.out] at this), Int.zero_add] at hcyd
                  obtain ⟨y, hy⟩ : ∃ y, y = cy X lsb n := ⟨_, rfl⟩
                  have HY := Aside0.mk hy
                  have HYD : Aside0 ((ev BW X + lsb) / BW ^ n = y) := ⟨by rw [hcyd, hy]⟩
                  have hy01 : y = 0 ∨ y = 1 := by have := hcy.2.2 hn0; have := hcy.1; omega
                  clear hadd hcy hcyd hy hlw hE
                  refine start_ (n := 11) (S := fun w' => w'.cell? ⟨g, 5, none⟩ = some (.slice (some ⟨mb, 0, none⟩) n c)) (ds := []) #[false, false, false, false, false, false, false, false, false, false, false] (by kernel_rfl) rfl rfl ((by go_simp)) (fun hHeld => ?_)
                  refine pure_ (i := 0) (N := some 170) (v := ?_) (a' := ?_) #[true, false, false, false, false, false, false, false, false, false, false] rfl rfl (by kernel_rfl) (fun _ _ _ h => h) (Or.inl ⟨by rfl, ?_⟩) ?_ ?_
                  rotate_left
                  · intro w'
                    go_simp
                    with_reducible rfl
                  rotate_left
                  · simp only [Act.put, List.setIfInBounds_toArray, List.set_cons_zero, List.set_cons_succ, i64_w, i32_w]
                    rfl
                  refine pure_ (i := 1) (N := some 171) (v := ?_) (a' := ?_) #[true, true, false, false, false, false, false, false, false, false, false] rfl rfl (by kernel_rfl) (fun _ _ _ h => h) (Or.inl ⟨by rfl, ?_⟩) ?_ ?_
                  rotate_left
                  · intro w'
                    go_simp
                    with_reducible rfl
                  rotate_left
                  · simp only [Act.put, List.setIfInBounds_toArray, List.set_cons_zero, List.set_cons_succ, i64_w, i32_w]
                    rfl
                  refine pure_ (i := 2) (N := some 172) (v := ?_) (a' := ?_) #[true, true, true, false, false, false, false, false, false, false, false] rfl rfl (by kernel_rfl) (fun _ _ _ h => h) (Or.inl ⟨by rfl, ?_⟩) ?_ ?_
                  rotate_left
                  · intro w'
                    go_simp
                    with_reducible rfl
                  rotate_left
                  · simp only [Act.put, List.setIfInBounds_toArray, List.set_cons_zero, List.set_cons_succ, i64_w, i32_w]
                    rfl
                  refine pure_ (i := 4) (N := some 174) (v := ?_) (a' := ?_) #[true, true, true, false, true, false, false, false, false, false, false] rfl rfl (by kernel_rfl) (fun _ _ _ h => h) (Or.inl ⟨by rfl, ?_⟩) ?_ ?_
                  rotate_left
                  · intro w'
                    go_simp
                    with_reducible rfl
                  rotate_left
                  · simp only [Act.put, List.setIfInBounds_toArray, List.set_cons_zero, List.set_cons_succ, i64_w, i32_w]
                    rfl
                  refine pure_ (i := 5) (N := some 175) (v := ?_) (a' := ?_) #[true, true, true, false, true, true, false, false, false, false, false] rfl rfl (by kernel_rfl) (fun _ _ _ h => h) (Or.inl ⟨by rfl, ?_⟩) ?_ ?_
                  rotate_left
                  · intro w'
                    go_simp
                    with_reducible rfl
                  rotate_left
                  · simp only [Act.put, List.setIfInBounds_toArray, List.set_cons_zero, List.set_cons_succ, i64_w, i32_w]
                    rfl
                  refine pure_ (i := 6) (N := some 176) (v := ?_) (a' := ?_) #[true, true, true, false, true, true, true, false, false, false, false] rfl rfl (by kernel_rfl) (fun _ _ _ h => h) (Or.inl ⟨by rfl, ?_⟩) ?_ ?_
                  rotate_left
                  · intro w'
                    go_simp
                    with_reducible rfl
                  rotate_left
                  · simp only [Act.put, List.setIfInBounds_toArray, List.set_cons_zero, List.set_cons_succ, i64_w, i32_w]
                    rfl
                  refine pure_ (i := 8) (N := some 178) (v := ?_) (a' := ?_) #[true, true, true, false, true, true, true, false, true, false, false] rfl rfl (by kernel_rfl) (fun _ _ _ h => h) (Or.inl ⟨by rfl, ?_⟩) ?_ ?_
                  rotate_left
                  · intro w'
                    go_simp
                    with_reducible rfl
                  rotate_left
                  · simp only [Act.put, List.setIfInBounds_toArray, List.set_cons_zero, List.set_cons_succ, i64_w, i32_w]
                    rfl
                  refine take_ (i := 3) (N := some 173) (v := ?_) (a' := ?_) #[true, true, true, true, true, true, true, false, true, false, false] rfl rfl (by kernel_rfl) (fun _ _ _ h => h) (Or.inl ⟨by rfl, ?_⟩) hHeld ?_ ?_
                  rotate_left
                  · intro w' s0
                    go_simp
                    with_reducible rfl
                  rotate_left
                  · simp only [Act.put, List.setIfInBounds_toArray, List.set_cons_zero, List.set_cons_succ, i64_w, i32_w]
                    rfl
                  refine take_ (i := 7) (N := some 177) (v := ?_) (a' := ?_) #[true, true, true, true, true, true, true, true, true, false, false] rfl rfl (by kernel_rfl) (fun _ _ _ h => h) (Or.inl ⟨by rfl, ?_⟩) hHeld ?_ ?_
                  rotate_left
                  · intro w' s0
                    go_simp
                    with_reducible rfl
                  rotate_left
                  · simp only [Act.put, List.setIfInBounds_toArray, List.set_cons_zero, List.set_cons_succ, i64_w, i32_w]
                    rfl
                  refine one_ (i := 9) (N := some 179) #[true, true, true, true, true, true, true, true, true, true, false] rfl rfl (by kernel_rfl) (by decide) (fun K hK => ?_)
                  refine goes_ Tryz.func113 (by kernel_rfl) rfl #[.slice (some ⟨mb, 0, none⟩) n c, .slice (some ⟨mb, 0, none⟩) n c, .int .u64 lsb] (by rfl) rfl rfl (by simp only [List.map_toArray, List.map_cons, List.map_nil]; rfl) ?_
                  with_reducible refine (HADD.out w3.drew HF3.out.drew.mant).mono ?_
                  rintro e w5 ⟨rfl, hm5, hk5⟩
                  refine ⟨_, rfl, ?_⟩
                  rw [← HY.out]
                  have q0 := hk5.cell (p := ⟨g, 5, none⟩) hHeld HF3.out.ne
                  have HM5 := Aside0.mk hm5
                  have HK5 := Aside0.mk hk5
                  clear hm5 hk5
                  refine hK.out _ _ (q0) (fun hHeld => ?_)
                  clear hK K
                  refine norm_ (a' := ?_) ?_ ?_
                  rotate_left
                  · show Act.put _ (some 179) _ = _
                    simp only [Act.put, List.setIfInBounds_toArray, List.set_cons_zero, List.set_cons_succ, i64_w, i32_w]
                    rfl
                  refine pure_ (i := 10) (N := some 180) (v := ?_) (a' := ?_) #[true, true, true, true, true, true, true, true, true, true, true] rfl rfl (by kernel_rfl) (fun _ _ _ h => h) (Or.inl ⟨by rfl, ?_⟩) ?_ ?_
                  rotate_left
                  · intro w'
                    go_simp
                    with_reducible rfl
                  rotate_left
                  · simp only [Act.put, List.setIfInBounds_toArray, List.set_cons_zero, List.set_cons_succ, i64_w, i32_w]
                    rfl
                  refine done_ (by kernel_rfl) ?_
                  have hK6 : Kept (On2 g mb) w w5 := (HK3.out.drew).trans HK5.out (fun i _ hi => .inr hi)
                  obtain ⟨W, hW⟩ : ∃ W, W = ev BW X + lsb := ⟨_, rfl⟩
                  have hF5 : Flt w5 g mb p m ac 1 neg n c E (wn n W ++ R1) := by
                    have hu := upd_all [] X R1 W
                    rw [List.nil_append, List.length_nil, List.nil_append, HXL.out] at hu
                    have hm := HM5.out
                    rw [← hW, hu] at hm
                    refine ⟨hp_kept HF3.out.drew.flt HK5.out HF3.out.ne, hm, HF3.out.ne, okd_append.2 ⟨wn_ok _ _, (okd_append.1 HF3.out.ok).2⟩, by rw [List.length_append, wn_len]; omega, HF3.out.lec, ?_⟩
                    have h1 := HF3.out.max
                    rw [List.length_append] at h1 ⊢
                    rw [wn_len]
                    rw [HXL.out] at h1
                    exact h1
                  have hlW : (wn n W ++ R1).length = (L ++ R).length := by rw [← hlR, List.length_append, List.length_append, wn_len, HXL.out]
                  have HF5 := Aside0.mk hF5
                  have HK6 := Aside0.mk hK6
                  have HLW := Aside0.mk hlW
                  have HW := Aside0.mk hW
                  have HEX := Aside0.mk (show ev BW X = ev BW (L.drop k) from by rw [HX.out])
                  have hpz : 64 * n - z = p := by have := HZ.out; have := HN.out; omega
                  have HPZ := Aside0.mk hpz
                  clear hF5 hK6 hlW hW HF3 HK3 HM5 HK5 HADD c0 c1 c2 c3 c4 c5 c6 f0 f1 f2 f3 f4 f5 f6 hpz
                  obtain ⟨c0, c1, c2, c3, c4, c5, c6, f0, f1, f2, f3, f4, f5, f6⟩ := blk7 HF5.out.flt
                  have lg5 := hp_lt HF5.out.flt
                  have hq := HUp.out HBB.out.symm
                  rcases hy01 with rfl | rfl
                  · as_aux_lemma =>
                    have hWlt : W < BW ^ n := by
                      have h1 := HYD.out
                      rw [← HW.out] at h1
                      have h2 := Int.emod_add_mul_ediv W (BW ^ n)
                      have h3 := Int.emod_lt_of_pos W (BWp n)
                      rw [h1, Int.mul_zero, Int.add_zero] at h2
                      omega
                    rw [HW.out, HEX.out, HLS.out] at hWlt
                    have h1 := rnd_nocarry HOK.out k n z hn0 HK.out hz64 hWlt
                    have h2 := rnd_up HOK.out k n z hn0 HK.out (by omega) hWlt
                    rw [← HD2.out, ← HV.out, HPZ.out] at h1
                    rw [← HD2.out, ← HV.out, ← HLS.out, ← HEX.out, ← HW.out, ← hq, HLS.out] at h2
                    have HEV : Aside0 (ev BW ((wn n W).set 0 ((wn n W).getD 0 0 - (wn n W).getD 0 0 % 2 ^ z)) = rmant p (rq neg m V d sb) * 2 ^ z) := ⟨by rw [h2]; unfold rmant; rw [if_neg (by rw [hq]; omega)]⟩
                    have HFF : Aside0 (Flt w5 g mb p m (rside neg m V d sb) 1 neg n c (rexp p (rq neg m V d sb) E) (wn n W ++ R1)) := ⟨by
                      have : rexp p (rq neg m V d sb) E = E := by unfold rexp; rw [if_neg (by rw [hq]; omega)]
                      rw [this, HSD.out]
                      exact HF5.out⟩
                    clear h1 h2 hWlt hq
                    go_wp2_with (fail)
                    go_meet
                    exact ⟨wn n W, R1, HLW.out, wn_len _ _, HFF, HK6, HEV⟩
                  · as_aux_lemma =>
                    have hWge : BW ^ n ≤ W := by
                      have h1 := HYD.out
                      rw [← HW.out] at h1
                      have h2 := Int.emod_add_mul_ediv W (BW ^ n)
                      have h3 := Int.emod_nonneg W (Int.ne_of_gt (BWp n))
                      rw [h1, Int.mul_one] at h2
                      omega
                    have hWlt : W < BW ^ n + 2 ^ z := by
                      have h1 := ev_lt HXO.out BW_pos
                      rw [HXL.out] at h1
                      rw [← HLS.out, HW.out]
                      omega
                    have hcar := rnd_carry HOK.out k n z hn0 HK.out hz64 (by rw [← HEX.out, ← HLS.out, ← HW.out]; exact hWge)
                    rw [← HD2.out, ← HV.out, HPZ.out, ← hq] at hcar
                    have hevW : ev BW (wn n W) / 2 ^ 1 = (W - BW ^ n) / 2 := by
                      have h2 : (2 : Int) ^ z ≤ BW ^ n := by
                        have h3 : (2 : Int) ^ z ≤ 2 ^ (64 * n) := pow_mono (by omega) (by omega)
                        rwa [Int.pow_mul, ← BW_two] at h3
                      rw [ev_wn, show W = (W - BW ^ n) + BW ^ n by omega, Int.add_emod_right, Int.emod_eq_of_lt (by omega) (by omega), Int.add_sub_cancel]
                      rfl
                    obtain ⟨Y, hY⟩ : ∃ Y, Y = wn n ((W - BW ^ n) / 2) := ⟨_, rfl⟩
                    have hhalf := rnd_half hn0 hz64 hWge hWlt _ rfl
                    rw [← hY] at hhalf
                    have hE2 : ¬ 2147483647 ≤ E := by have := HE.out; omega
                    have hEw : IntKind.i32.wrap (E + 1) = E + 1 := by have := HE.out; rw [IntKind.wrap_i32]; omega
                    have HF6 := Aside0.mk (HF5.out.setExp (E + 1))
                    have HK7 := Aside0.mk (HK6.out.setCell (p := ⟨g, 6, none⟩) (.inl (On2.l g mb)) (.int .i32 (E + 1)))
                    have HHALF := Aside0.mk hhalf
                    have HCAR := Aside0.mk hcar
                    have HEVW := Aside0.mk hevW
                    have HYY := Aside0.mk hY
                    have hYl : Y.length = n := by rw [hY, wn_len]
                    have HYL := Aside0.mk hYl
                    clear hWge hWlt hcar hevW hhalf hq hY hYl
                    go_wp2_with (fail)
                    obtain ⟨w6, hw6⟩ : ∃ w6, w6 = w5.setCell ⟨g, 6, none⟩ (.int .i32 (E + 1)) := ⟨_, rfl⟩
                    have hF6 := HF6.out
                    have hK7 := HK7.out
                    rw [← hw6] at hF6 hK7 ⊢
                    clear HF6 HK7 HF5 HK6 hw6 c0 c1 c2 c3 c4 c5 c6 f0 f1 f2 f3 f4 f5 f6 hEw hE2 q0 hHeld
                    have HF6 := Aside0.mk hF6
                    have HK7 := Aside0.mk hK7
                    clear hF6 hK7
                    obtain ⟨c0, c1, c2, c3, c4, c5, c6, f0, f1, f2, f3, f4, f5, f6⟩ := blk7 HF6.out.flt
                    have lg6 := hp_lt HF6.out.flt
                    obtain ⟨cc, hcc⟩ : ∃ cc, cc = (wn n W).getD 0 0 * 2 ^ (64 - 1) % BW := ⟨_, rfl⟩
                    have hrsh : ∀ U, hp U mb = some (.cells (u64s (wn n W ++ R1)) 108 (0, 0)) → Calls Tryz.prog 97 #[.slice (some ⟨mb, 0, none⟩) n c, .slice (some ⟨mb, 0, none⟩) n c, .int .u64 1] U (ShiftPost U mb 0 (wn n W ++ R1) n ((W - BW ^ n) / 2) cc 108) := fun U hU => by
                      have := rshVU_c mb 0 c mb 0 c (wn n W ++ R1) (wn n W) 1 108 U (by omega) hU (by rw [Nat.zero_add, List.length_append]; omega) ⟨fun j hj => by
                        have h1 := (blk_cell hU (0 + j)).trans (u64s_get _ (0 + j) (by rw [List.length_append]; omega))
                        rw [h1, Nat.zero_add]
                        simp only [List.getD_eq_getElem?_getD, List.getElem?_append_left hj], .inr ⟨rfl, rfl⟩⟩ (by rw [wn_len]; exact hn0) (by rw [wn_len]; have := HK.out; omega) (wn_ok _ _)
                      rw [HEVW.out, wn_len, ← hcc] at this
                      exact this
                    have HRSH := Aside0.mk hrsh
                    clear hrsh hcc
                    refine start_ (n := 9) (S := fun w' => w'.cell? ⟨g, 5, none⟩ = some (.slice (some ⟨mb, 0, none⟩) n c)) (ds := []) #[false, false, false, false, false, false, false, false, false] (by kernel_rfl) rfl rfl ((by go_simp)) (fun hHeld => ?_)
                    refine pure_ (i := 0) (N := some 196) (v := ?_) (a' := ?_) #[true, false, false, false, false, false, false, false, false] rfl rfl (by kernel_rfl) (fun _ _ _ h => h) (Or.inl ⟨by rfl, ?_⟩) ?_ ?_
                    rotate_left
                    · intro w'
                      go_simp
                      with_reducible rfl
                    rotate_left
                    · simp only [Act.put, List.setIfInBounds_toArray, List.set_cons_zero, List.set_cons_succ, i64_w, i32_w]
                      rfl
                    refine pure_ (i := 1) (N := some 197) (v := ?_) (a' := ?_) #[true, true, false, false, false, false, false, false, false] rfl rfl (by kernel_rfl) (fun _ _ _ h => h) (Or.inl ⟨by rfl, ?_⟩) ?_ ?_
                    rotate_left
                    · intro w'
                      go_simp
                      with_reducible rfl
                    rotate_left
                    · simp only [Act.put, List.setIfInBounds_toArray, List.set_cons_zero, List.set_cons_succ, i64_w, i32_w]
                      rfl
                    refine pure_ (i := 2) (N := some 198) (v := ?_) (a' := ?_) #[true, true, true, false, false, false, false, false, false] rfl rfl (by kernel_rfl) (fun _ _ _ h => h) (Or.inl ⟨by rfl, ?_⟩) ?_ ?_
                    rotate_left
                    · intro w'
                      go_simp
                      with_reducible rfl
                    rotate_left
                    · simp only [Act.put, List.setIfInBounds_toArray, List.set_cons_zero, List.set_cons_succ, i64_w, i32_w]
                      rfl
                    refine pure_ (i := 4) (N := some 200) (v := ?_) (a' := ?_) #[true, true, true, false, true, false, false, false, false] rfl rfl (by kernel_rfl) (fun _ _ _ h => h) (Or.inl ⟨by rfl, ?_⟩) ?_ ?_
                    rotate_left
                    · intro w'
                      go_simp
                      with_reducible rfl
                    rotate_left
                    · simp only [Act.put, List.setIfInBounds_toArray, List.set_cons_zero, List.set_cons_succ, i64_w, i32_w]
                      rfl
                    refine pure_ (i := 5) (N := some 201) (v := ?_) (a' := ?_) #[true, true, true, false, true, true, false, false, false] rfl rfl (by kernel_rfl) (fun _ _ _ h => h) (Or.inl ⟨by rfl, ?_⟩) ?_ ?_
                    rotate_left
                    · intro w'
                      go_simp
                      with_reducible rfl
                    rotate_left
                    · simp only [Act.put, List.setIfInBounds_toArray, List.set_cons_zero, List.set_cons_succ, i64_w, i32_w]
                      rfl
                    refine pure_ (i := 6) (N := some 202) (v := ?_) (a' := ?_) #[true, true, true, false, true, true, true, false, false] rfl rfl (by kernel_rfl) (fun _ _ _ h => h) (Or.inl ⟨by rfl, ?_⟩) ?_ ?_
                    rotate_left
                    · intro w'
                      go_simp
                      with_reducible rfl
                    rotate_left
                    · simp only [Act.put, List.setIfInBounds_toArray, List.set_cons_zero, List.set_cons_succ, i64_w, i32_w]
                      rfl
                    refine take_ (i := 3) (N := some 199) (v := ?_) (a' := ?_) #[true, true, true, true, true, true, true, false, false] rfl rfl (by kernel_rfl) (fun _ _ _ h => h) (Or.inl ⟨by rfl, ?_⟩) hHeld ?_ ?_
                    rotate_left
                    · intro w' s0
                      go_simp
                      with_reducible rfl
                    rotate_left
                    · simp only [Act.put, List.setIfInBounds_toArray, List.set_cons_zero, List.set_cons_succ, i64_w, i32_w]
                      rfl
                    refine take_ (i := 7) (N := some 203) (v := ?_) (a' := ?_) #[true, true, true, true, true, true, true, true, false] rfl rfl (by kernel_rfl) (fun _ _ _ h => h) (Or.inl ⟨by rfl, ?_⟩) hHeld ?_ ?_
                    rotate_left
                    · intro w' s0
                      go_simp
                      with_reducible rfl
                    rotate_left
                    · simp only [Act.put, List.setIfInBounds_toArray, List.set_cons_zero, List.set_cons_succ, i64_w, i32_w]
                      rfl
                    refine one_ (i := 8) (N := some 204) #[true, true, true, true, true, true, true, true, true] rfl rfl (by kernel_rfl) (by decide) (fun K hK => ?_)
                    refine goes_ Tryz.func97 (by kernel_rfl) rfl #[.slice (some ⟨mb, 0, none⟩) n c, .slice (some ⟨mb, 0, none⟩) n c, .int .u64 1] (by rfl) rfl rfl (by simp only [List.map_toArray, List.map_cons, List.map_nil]; rfl) ?_
                    with_reducible refine (HRSH.out w6.drew HF6.out.drew.mant).mono ?_
                    rintro e w7 ⟨rfl, hm7, hk7⟩
                    refine ⟨_, rfl, ?_⟩
                    have q0 := hk7.cell (p := ⟨g, 5, none⟩) hHeld HF6.out.ne
                    have HM7 := Aside0.mk hm7
                    have HK8 := Aside0.mk hk7
                    clear hm7 hk7
                    refine hK.out _ _ (q0) (fun hHeld => ?_)
                    clear hK K
                    refine norm_ (a' := ?_) ?_ ?_
                    rotate_left
                    · show Act.put _ (some 204) _ = _
                      simp only [Act.put, List.setIfInBounds_toArray, List.set_cons_zero, List.set_cons_succ, i64_w, i32_w]
                      rfl
                    refine done_ (by kernel_rfl) ?_
                    have hK9 : Kept (On2 g mb) w w7 := (HK7.out.drew).trans HK8.out (fun i _ hi => .inr hi)
                    have hF7 : Flt w7 g mb p m ac 1 neg n c (E + 1) (Y ++ R1) := by
                      have hu := upd_all [] (wn n W) R1 ((W - BW ^ n) / 2)
                      rw [List.nil_append, List.length_nil, List.nil_append, wn_len, ← HYY.out] at hu
                      have hm := HM7.out
                      rw [hu] at hm
                      refine ⟨hp_kept HF6.out.drew.flt HK8.out HF6.out.ne, hm, HF6.out.ne, okd_append.2 ⟨by rw [HYY.out]; exact wn_ok _ _, (okd_append.1 HF6.out.ok).2⟩, by rw [List.length_append, HYL.out]; omega, HF6.out.lec, ?_⟩
                      have h1 := HF6.out.max
                      rw [List.length_append, wn_len] at h1
                      rw [List.length_append, HYL.out]
                      exact h1
                    have HF7 := Aside0.mk hF7
                    have HK9 := Aside0.mk hK9
                    clear hF7 hK9 HF6 HK7 HM7 HK8 HRSH c0 c1 c2 c3 c4 c5 c6 f0 f1 f2 f3 f4 f5 f6 q0 hHeld
                    obtain ⟨c0, c1, c2, c3, c4, c5, c6, f0, f1, f2, f3, f4, f5, f6⟩ := blk7 HF7.out.flt
                    obtain ⟨hx, hfx⟩ := HF7.out.word (n - 1) (by rw [List.length_append, HYL.out]; omega)
                    have e9 : (Y ++ R1).getD (n - 1) 0 = Y.getD (n - 1) 0 := by simp only [List.getD_eq_getElem?_getD]; rw [List.getElem?_append_left (by rw [HYL.out]; omega)]
                    rw [e9] at hx
                    obtain ⟨x, hxx⟩ : ∃ x, x = Y.getD (n - 1) 0 := ⟨_, rfl⟩
                    rw [← hxx] at hx
                    have hn1I : (n : Int) - 1 = ((n - 1 : Nat) : Int) := by omega
                    have hor2 : Go.bits .or .u64 x 9223372036854775808 = x + 9223372036854775808 := by
                      have h1 := HHALF.out.1
                      rw [← hxx] at h1
                      have h2 := okd_get (show okd BW Y by rw [HYY.out]; exact wn_ok _ _) BW_pos (n - 1)
                      rw [← hxx] at h2
                      exact or64_join 63 9223372036854775808 x (by omega) (by decide) (by omega) h2.1 h1 (by omega)
                    have hnl : n - 1 < n := by omega
                    have HXX := Aside0.mk hxx
                    have HF8 : Aside0 (Flt (w7.setCell ⟨mb, n - 1, none⟩ (.int .u64 (x + 9223372036854775808))) g mb p m ac 1 neg n c (E + 1) (Y.set (n - 1) (Y.getD (n - 1) 0 + 9223372036854775808) ++ R1)) := ⟨by
                      have h1 := HHALF.out.1
                      have h2 := okd_get (show okd BW Y by rw [HYY.out]; exact wn_ok _ _) BW_pos (n - 1)
                      have h3 := HF7.out.setWord (n - 1) (x + 9223372036854775808) (by rw [hxx]; have := BW_def; omega)
                      rw [List.set_append_left _ _ (by rw [HYL.out]; omega)] at h3
                      rw [← hxx]
                      exact h3⟩
                    have HEV : Aside0 (ev BW ((Y.set (n - 1) (Y.getD (n - 1) 0 + 9223372036854775808)).set 0 ((Y.set (n - 1) (Y.getD (n - 1) 0 + 9223372036854775808)).getD 0 0 - (Y.set (n - 1) (Y.getD (n - 1) 0 + 9223372036854775808)).getD 0 0 % 2 ^ z)) = rmant p (rq neg m V d sb) * 2 ^ z) := ⟨by
                      rw [HHALF.out.2.2]
                      unfold rmant
                      rw [if_pos HCAR.out]
                      congr 2
                      have := HPZ.out
                      omega⟩
                    clear hxx e9
                    go_wp2_with (fail)
                    go_meet
                    refine ⟨Y.set (n - 1) (Y.getD (n - 1) 0 + 9223372036854775808), R1, ?_, ?_, ⟨?_⟩, ⟨HK9.out.setCell (p := ⟨mb, n - 1, none⟩) (.inl (On2.r g mb)) _⟩, HEV⟩
                    · rw [← HLW.out, List.length_append, List.length_append, List.length_set, HYL.out, wn_len]
                    · rw [List.length_set, HYL.out]
                    · have : rexp p (rq neg m V d sb) E = E + 1 := by unfold rexp; rw [if_pos HCAR.out]
                      rw [this, HSD.out]
                      exact HF8.out
          case rest =>
            obtain ⟨X2, R2, hl2, hx2, HF9, HK9, HEV⟩ := hcut
            obtain ⟨w9, hw9⟩ : ∃ w9, w9 = wc := ⟨_, rfl⟩
            rw [← hw9] at HF9 HK9 ⊢
            clear hw9 c0 c1 c2 c3 c4 c5 c6 f0 f1 f2 f3 f4 f5 f6 hlw HF1 HK2
            obtain ⟨c0, c1, c2, c3, c4, c5, c6, f0, f1, f2, f3, f4, f5, f6⟩ := blk7 HF9.out.flt
            obtain ⟨hx, hfx⟩ := HF9.out.word 0 (by rw [List.length_append]; omega)
            have e0 : (X2 ++ R2).getD 0 0 = X2.getD 0 0 := by simp only [List.getD_eq_getElem?_getD]; rw [List.getElem?_append_left (by omega)]
            rw [e0] at hx
            obtain ⟨x, hxx⟩ : ∃ x, x = X2.getD 0 0 := ⟨_, rfl⟩
            rw [← hxx] at hx
            have hxr := okd_get (okd_append.1 HF9.out.ok).1 BW_pos 0
            rw [← hxx] at hxr
            have hl1 : IntKind.u64.wrap (lsb - 1) = lsb - 1 := by rw [IntKind.wrap_u64]; have := BW_def; omega
            have hmask : Go.bits .andNot .u64 x (lsb - 1) = x - x % 2 ^ z := by
              have e2 := BW_def
              have hz1 : (1 : Int) ≤ 2 ^ z := tp z
              rw [u64_andNot _ _ hxr.1 (by omega) (by omega) (by omega)]
              have h2 : (lsb - 1).toNat = 2 ^ z - 1 := by
                rw [HLS.out]
                have : ((2 ^ z : Nat) : Int) = 2 ^ z := by push_cast; rfl
                omega
              rw [h2, show 18446744073709551615 - (2 ^ z - 1) = 2 ^ 64 - 2 ^ z from by
                have := Nat.two_pow_pos z
                have : 2 ^ z ≤ 2 ^ 64 := Nat.pow_le_pow_right (by decide) (by omega)
                omega, nat_midmask 64 z x.toNat (by omega)]
              have h3 : x.toNat % 2 ^ 64 = x.toNat := Nat.mod_eq_of_lt (by omega)
              rw [h3]
              push_cast
              rw [Int.toNat_of_nonneg hxr.1]
              exact (cut_mul x z).symm
            have hxm : 0 ≤ x - x % 2 ^ z ∧ x - x % 2 ^ z < BW := by
              have h1 := Int.emod_nonneg x (Int.ne_of_gt (tp z))
              have h2 := Int.emod_add_mul_ediv x (2 ^ z)
              have h3 := Int.mul_nonneg (Int.le_of_lt (tp z)) (Int.ediv_nonneg hxr.1 (Int.le_of_lt (tp z)))
              omega
            have hF := HF9.out.setWord 0 (x - x % 2 ^ z) hxm
            rw [List.set_append_left _ _ (by omega)] at hF
            have HFF := Aside0.mk hF
            have HXX := Aside0.mk hxx
            clear hF hxm hxx e0 hxr
            go_wp2_with (fail)
            first | go_end0 | refine bodyPost_ret (results_none rfl _ _ _) rfl ?_
            refine ⟨rfl, HK9.out.setCell (p := ⟨mb, 0, none⟩) (.inl (On2.r g mb)) _, .inr ⟨by omega, X2.set 0 (x - x % 2 ^ z), R2, ?_, ?_, ?_, ?_⟩⟩
            · rw [← HV.out, ← HDD.out, List.length_set, hx2]
              exact HFF.out
            · rw [← hl2, List.length_append, List.length_append, List.length_set]
            · rw [List.length_set, hx2, HN.out]
            · rw [← HV.out, ← HDD.out, List.length_set, hx2, ← HZ.out, HXX.out]
              exact HEV.out
end Go.Proofs.YtfnknldbjckgoaaGreatDoor.Sp
