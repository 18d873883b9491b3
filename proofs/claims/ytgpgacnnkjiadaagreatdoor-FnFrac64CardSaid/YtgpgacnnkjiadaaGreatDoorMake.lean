/-
  CONTRACTS of nat.make and nat.set onto whatever destination (nil, or a block of the call's own that may be used again).
-/
import Derived.Test.YtgpgacnnkjiadaaGreatDoorKept
namespace Go.Proofs.YtgpgacnnkjiadaaGreatDoor.Sp
open Go.RowKit Go.Proofs.YtgpgacnnkjiadaaGreatDoorW.PrintWords Go.Proofs.YtgpgacnnkjiadaaGreatDoorW.PrintLast Go.Proofs.YtgpgacnnkjiadaaGreatDoorW.PrintMore Go.Proofs.YtgpgacnnkjiadaaGreatDoor.Dig
set_option linter.unusedVariables false
set_option linter.unusedSimpArgs false

/-- A destination: nil, or a whole block of words in S. -/
def Dst (w : World) (z : Value) (S : Nat → Prop) : Prop := z = .slice none 0 0 ∨ ∃ mz nz Z, z = .slice (some ⟨mz, 0, none⟩) nz Z.length ∧ hp w mz = some (.cells (u64s Z) 67 (0, 0)) ∧ okd BW Z ∧ S mz ∧ Z.length ≤ 1000000 ∧ nz ≤ Z.length
theorem Dst.nil (w : World) (S : Nat → Prop) : Dst w (.slice none 0 0) S := .inl rfl
theorem Dst.kept {w w' : World} {z : Value} {S T : Nat → Prop} (h : Dst w z S) (hk : Kept T w w') (hT : ∀ i, S i → ¬ T i) : Dst w' z S := by
  rcases h with h | ⟨mz, nz, Z, h1, h2, h3, h4, h5⟩
  · exact .inl h
  · exact .inr ⟨mz, nz, Z, h1, hp_kept h2 hk (hT mz h4), h3, h4, h5⟩
theorem Dst.set {w : World} {z : Value} {S : Nat → Prop} (h : Dst w z S) {p : Addr} (hp : ¬ S p.block) (u : Value) : Dst (w.setCell p u) z S := by
  rcases h with h | ⟨mz, nz, Z, h1, h2, h3, h4, h5⟩
  · exact .inl h
  · exact .inr ⟨mz, nz, Z, h1, by rw [hp_other _ _ _ _ (fun e => hp (by rw [e]; exact h4))]; exact h2, h3, h4, h5⟩
/-- What 'make' leaves. -/
def MakePost (w : World) (S : Nat → Prop) (n : Nat) (e : Ending) (w' : World) : Prop :=
  ∃ mb Z, e = .returned (.slice (some ⟨mb, 0, none⟩) n Z.length) ∧ n ≤ Z.length ∧ Z.length ≤ 1000000 ∧ (S mb ∨ mb = w.heap.size) ∧ hp w' mb = some (.cells (u64s Z) 67 (0, 0)) ∧ okd BW Z ∧ Kept S w w'
set_option maxHeartbeats 1600000 in
set_option maxRecDepth 100000 in
theorem make_c (z : Value) (S : Nat → Prop) (n : Nat) (w : World) (h : Dst w z S) (h1 : 1 ≤ n) (h2 : n ≤ 900000) :
    Calls Tryz.prog 31 #[z, .int .i64 (n : Int)] w (MakePost w S n) := by
  rcases h with rfl | ⟨mz, nz, Z, rfl, hz, hok, hS, hmax, hnz⟩
  · refine (make_nil (n : Int) (by omega) (by omega) w).mono ?_
    rintro e w' ⟨c, hc1, hc2, rfl, rfl⟩
    rw [Int.toNat_natCast] at *
    refine ⟨w.heap.size, List.replicate c 0, by simp, by simp; omega, by simp; omega, .inr rfl, hp_new _ _ _ rfl, okd_replicate _ BW_pos, (Kept.refl _ _).alloc _⟩
  · by_cases hle : n ≤ Z.length
    · have hle2 : decide (n ≤ Z.length) = true := decide_eq_true hle
      have HZ := Aside0.mk hz
      have HO := Aside0.mk hok
      have HS := Aside0.mk hS
      clear hz hok hS
      go_enter Tryz.func31, Tryz.ntmps31
      go_wp2_with (fail)
      go_ret
      exact ⟨mz, Z, rfl, hle, hmax, .inl HS.out, HZ.out, HO.out, Kept.refl _ _⟩
    · have hle2 : decide (n ≤ Z.length) = false := decide_eq_false hle
      by_cases hn : n = 1
      · subst hn
        have hmk := make_ints 36 67 .u64 8 Tryz.underlying36 infoWord (by omega) 1 1 (by omega) (by omega) (by omega)
        clear hz hok hS
        go_enter Tryz.func31, Tryz.ntmps31
        go_wp2
        go_ret
        exact ⟨w.heap.size, [0], rfl, by simp, by simp, .inr rfl, hp_new _ _ _ rfl, okd_replicate 1 BW_pos, (Kept.refl _ _).alloc _⟩
      · have hb : ((n : Int) == 1) = false := by rw [beq_eq_false_iff_ne]; omega
        have hmk := make_ints 36 67 .u64 8 Tryz.underlying36 infoWord (by omega) (n : Int) ((n : Int) + 4) (by omega) (by omega) (by omega)
        clear hz hok hS
        go_enter Tryz.func31, Tryz.ntmps31
        go_wp2
        go_ret
        have e1 : ((n : Int) + 4).toNat = n + 4 := by omega
        refine ⟨w.heap.size, List.replicate (n + 4) 0, ?_, by simp, by simp; omega, .inr rfl, by rw [hp_new _ _ _ rfl, ← u64s_rep], okd_replicate _ BW_pos, (Kept.refl _ _).alloc _⟩
        simp [e1]
/-- What 'set' leaves: the words, at the head of a block of S or of a new one. -/
def SetPostW (w : World) (S : Nat → Prop) (L : List Int) (e : Ending) (w' : World) : Prop :=
  ∃ mb R c, e = .returned (.slice (some ⟨mb, 0, none⟩) L.length c) ∧ (L ++ R).length = c ∧ c ≤ 1000000 ∧ (S mb ∨ mb = w.heap.size) ∧ hp w' mb = some (.cells (u64s (L ++ R)) 67 (0, 0)) ∧ okd BW (L ++ R) ∧ Kept S w w'
set_option maxHeartbeats 1600000 in
set_option maxRecDepth 100000 in
theorem set_c (z : Value) (S : Nat → Prop) (a : Addr) (c : Nat) (L : List Int) (w : World) (h : Dst w z S) (hx : Kd.C (Kd.int .u64) w (some a) L.length L) (hok : okd BW L) (h0 : 0 < L.length) (hbig : L.length ≤ 900000) (ha : ¬ S a.block) (hal : a.block < w.heap.size) :
    Calls Tryz.prog 64 #[z, .slice (some a) L.length c] w (SetPostW w S L) := by
  have HM := Aside0.mk (make_c z S L.length w h h0 hbig)
  have HX := Aside0.mk hx
  have HO := Aside0.mk hok
  have hz : ∃ A m c, z = .slice A m c := by
    rcases h with rfl | ⟨mz, nz, Z, rfl, _⟩
    · exact ⟨_, _, _, rfl⟩
    · exact ⟨_, _, _, rfl⟩
  obtain ⟨Az, mz, cz, rfl⟩ := hz
  clear h hx hok
  go_enter Tryz.func64, Tryz.ntmps64
  go_wp2_with (fail)
  refine (HM.out).mono ?_
  rintro e w1 ⟨mb, Z, rfl, hn, hmax, hmb, hm, hokZ, hk⟩
  have hne : ¬ mb = a.block := by
    rintro rfl
    rcases hmb with hmb | hmb
    · exact ha hmb
    · omega
  have HX1 := Aside0.mk (C_kept hk HX.out (fun _ => ha))
  have HK1 := Aside0.mk hk
  have HB := Aside0.mk hmb
  have HMM := Aside0.mk hm
  have HZ := Aside0.mk hokZ
  have hn1 : (L.map (Value.int .u64)).length = Nat.min L.length L.length := by simp
  have hn2 : 0 < (L.map (Value.int .u64)).length → (some ⟨mb, 0, none⟩ : Option Addr) = some ⟨mb, 0, none⟩ ∧ ∃ ad, (some a : Option Addr) = some ad ∧ ∀ j v, (L.map (Value.int .u64))[j]? = some v → w1.cell? (ad.add j) = some v := fun _ => ⟨rfl, _, rfl, fun j v hv => copy_src HX1.out j v hv⟩
  have hn3 : 0 + (L.map (Value.int .u64)).length ≤ (Z.map (Value.int .u64)).length := by simp; omega
  have HN1 := Aside0.mk hn1
  have HN2 := Aside0.mk hn2
  have HN3 := Aside0.mk hn3
  clear hk hmb hm hokZ hn1 hn2 hn3
  go_wp2_with (with_reducible refine wpList_copy_kept rfl _ _ 36 36 rfl 67 Tryz.underlying36 ?k1 (some ⟨mb, 0, none⟩) (some a) L.length Z.length L.length c rfl rfl mb 0 (Z.map (Value.int .u64)) 67 ?k2 (L.map (Value.int .u64)) ?k3 ?k4 ?k5 ?k6 ?k7)
  case k1 => kernel_rfl
  case k2 => exact HMM.out
  case k3 => exact HN1.out
  case k4 => first | exact HN2.out | exact (fun j x hj => copy_src HX1.out j _ (by rw [List.getElem?_map, hj]; rfl)) | exact (fun _ j x hj => copy_src HX1.out j _ (by rw [List.getElem?_map, hj]; rfl)) | fail
  case k5 => exact HN3.out
  case k6 => exact fun v hv => copy_one v hv
  case k7 =>
    intro w2 hw2 hk2
    have HW2 := Aside0.mk hw2.out
    clear hw2
    go_wp2_with (fail)
    go_ret
    have e1 : (L ++ Z.drop L.length).length = Z.length := by simp; omega
    refine ⟨mb, Z.drop L.length, Z.length, rfl, e1, hmax, HB.out, ?_, okd_append.2 ⟨HO.out, okd_drop HZ.out _⟩, ?_⟩
    · refine (show hp w2 mb = _ from HW2.out).trans ?_
      rw [laid_u64]
      unfold laid
      rw [List.take_zero, List.nil_append, Nat.zero_add]
    · refine HK1.out.trans hk2.out (fun i hi hT => ?_)
      obtain rfl : i = mb := hT
      rcases HB.out with h | h
      · exact h
      · omega
theorem norm_w (A : Option Addr) (c : Nat) (l : List Int) (n : Nat) (w : World) (h : Kd.C (Kd.int .u64) w A l.length l) (hn : l.length = n) (hlc : n ≤ c) (hl : n ≤ 1000000000000) :
    Calls Tryz.prog 73 #[.slice A n c] w fun e w' => e = .returned (.slice A (strip l).length c) ∧ w = w' := by
  subst hn
  exact norm_c A c l w h hlc hl
end Go.Proofs.YtgpgacnnkjiadaaGreatDoor.Sp
