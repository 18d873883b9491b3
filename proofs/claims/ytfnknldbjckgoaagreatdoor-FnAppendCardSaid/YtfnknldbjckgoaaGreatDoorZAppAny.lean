/-
  CONTRACT of Float.Append in all formats, of whatever form (precisions from -1 on).
-/
import Derived.Test.YtfnknldbjckgoaaGreatDoorZAppZN
import Derived.Test.YtfnknldbjckgoaaGreatDoorZMarshA
import Derived.Test.YtfnknldbjckgoaaGreatDoorZAppX
import Derived.Test.YtfnknldbjckgoaaGreatDoorZAppP
import Derived.Test.YtfnknldbjckgoaaGreatDoorZGx1
namespace Go.Proofs.YtfnknldbjckgoaaGreatDoor.Sp
open Go.RowKit Go.Proofs.YtfnknldbjckgoaaGreatDoorW.PrintWords Go.Proofs.YtfnknldbjckgoaaGreatDoorW.PrintLast Go.Proofs.YtfnknldbjckgoaaGreatDoorW.PrintMore Go.Proofs.YtfnknldbjckgoaaGreatDoor.Dig
set_option linter.unusedVariables false
set_option linter.unusedSimpArgs false
theorem son_app (l m : List Int) : strOfNums (l ++ m) = strOfNums l ++ strOfNums m := by
  apply ByteArray.ext
  rw [ByteArray.data_append]
  apply Array.toList_inj.1
  simp [strOfNums]
theorem son_sz (l : List Int) : (strOfNums l).size = l.length := by
  rw [← ByteArray.size_data]
  simp [strOfNums]
theorem expT_len20 (y : Int) (h : y.natAbs < 10 ^ 18) : (expT y).length ≤ 20 := by
  have h1 : (itoaT y.natAbs).length ≤ 18 := by
    unfold itoaT
    split
    · simp
    · exact figs_len 10 18 _ (by omega) h
  unfold expT
  rw [List.length_append, List.length_append]
  split <;> split <;> simp only [List.length_cons, List.length_nil] <;> omega
theorem itoaI_len19 (y : Int) (h : y.natAbs < 10 ^ 18) : (itoaI y).length ≤ 19 := by
  have h1 : (itoaT y.natAbs).length ≤ 18 := by
    unfold itoaT
    split
    · simp
    · exact figs_len 10 18 _ (by omega) h
  unfold itoaI
  split
  · rw [List.length_cons]; omega
  · omega
theorem fmtET_len (d : List Int × Int) (ch prec : Int) (hp : prec ≤ 100000) (h : -1300000 ≤ d.2 ∧ d.2 ≤ 1300000) : (fmtET d ch prec).length ≤ 200000 := by
  have h1 := expT_len20 (if d.1 = [] then 0 else d.2 - 1) (by split <;> omega)
  have h2 : ∀ p : Nat, (moreT d.1 p).length = p := fun p => by unfold moreT; simp; omega
  unfold fmtET
  rw [List.length_append, List.length_append, List.length_append]
  split
  · simp only [List.length_cons, List.length_nil, h2]; omega
  · simp only [List.length_cons, List.length_nil]; omega
theorem fmtFT_len (d : List Int × Int) (prec : Int) (hp : prec ≤ 3000000) (h : d.2 ≤ 1300000) : (fmtFT d prec).length ≤ 5000000 := by
  have h1 : (wholeT d).length ≤ 1300001 := by
    unfold wholeT
    split
    · simp; omega
    · simp
  unfold fmtFT fracT
  rw [List.length_append]
  split
  · rw [List.length_cons, List.length_map, List.length_range]; omega
  · simp; omega
theorem fmtGT_len (d : List Int × Int) (ch prec : Int) (short : Bool) (hp : prec ≤ 10000) (hl : d.1.length ≤ 8000) (h : -1300000 ≤ d.2 ∧ d.2 ≤ 1300000) : (fmtGT d ch prec short).length ≤ 5000000 := by
  unfold fmtGT
  simp only
  obtain ⟨ep, hep⟩ : ∃ ep : Int, ep = (if short = true then (6 : Int) else if (d.1.length : Int) < prec ∧ d.2 ≤ (d.1.length : Int) then (d.1.length : Int) else prec) := ⟨_, rfl⟩
  rw [← hep]
  split
  · have := fmtET_len d (ch - 2) ((if (d.1.length : Int) < prec then (d.1.length : Int) else prec) - 1) (by split <;> omega) h
    omega
  · exact fmtFT_len d _ (by split <;> omega) (by omega)
theorem finT_len {vN b p : Nat} {x : Int} (h0 : DBd (initD vN x)) (hs : DBd (shortV vN b p x)) (ch k : Int) (hk : -10 ≤ k ∧ k ≤ 1000) : (finT vN b p x ch k).length ≤ 5000000 := by
  have a1 := h0.len; have a2 := h0.lo; have a3 := h0.hi
  have b1 := hs.len; have b2 := hs.lo; have b3 := hs.hi
  have hr : ∀ n, (roundD (initD vN x) n).1.length ≤ 8000 ∧ -1300000 ≤ (roundD (initD vN x) n).2 ∧ (roundD (initD vN x) n).2 ≤ 1300000 := fun n => by
    have := roundD_len (initD vN x) n
    omega
  unfold finT decT
  split
  · split
    · have := fmtET_len (shortV vN b p x) ch (((shortV vN b p x).1.length : Int) - 1) (by omega) (by omega); omega
    · have := fmtET_len (roundD (initD vN x) (1 + k)) ch k (by omega) (by have := hr (1 + k); omega); omega
  · split
    · split
      · exact fmtFT_len _ _ (by omega) (by omega)
      · exact fmtFT_len _ _ (by omega) (by have := hr ((initD vN x).2 + k); omega)
    · split
      · exact fmtGT_len _ _ _ _ (by omega) b1 (by omega)
      · exact fmtGT_len _ _ _ _ (by split <;> omega) (hr _).1 (hr _).2
theorem fmtXT_len (neg : Bool) (m : Int) (v b k1 : Nat) (x : Int) (hk : k1 ≤ 110) (hb : b ≤ 1000) (hx : -100000 ≤ x ∧ x ≤ 100000) : (fmtXT neg m v b (4 * k1 + 1) x).length ≤ 1000 := by
  have h1 : -200000 ≤ xE neg m v b (4 * k1 + 1) x ∧ xE neg m v b (4 * k1 + 1) x ≤ 200000 := by
    unfold xE rexp
    split
    · omega
    · split <;> omega
  have h2 := expT_len20 (xE neg m v b (4 * k1 + 1) x - 1) (by omega)
  unfold fmtXT
  rw [List.length_append, List.length_append, List.length_append]
  split
  · simp only [List.length_cons, List.length_nil]; omega
  · rw [List.length_append, lows_len]; simp only [List.length_cons, List.length_nil]; omega
theorem fmtPT_len (v b : Nat) (x : Int) (hv : v < 2 ^ 208) (hb : b ≤ 1000) (hx : -100000 ≤ x ∧ x ≤ 100000) : (fmtPT v b x).length ≤ 1000 := by
  have h1 : v * 2 ^ ((4 - b % 4) % 4) < 16 ^ 53 := by
    have h2 : 2 ^ ((4 - b % 4) % 4) ≤ 2 ^ 4 := Nat.pow_le_pow_right (by omega) (by omega)
    have h3 : v * 2 ^ ((4 - b % 4) % 4) ≤ v * 2 ^ 4 := Nat.mul_le_mul_left _ h2
    have h4 : v * 2 ^ 4 < 2 ^ 208 * 2 ^ 4 := Nat.mul_lt_mul_of_pos_right hv (by decide)
    have h5 : 2 ^ 208 * 2 ^ 4 ≤ 16 ^ 53 := by decide +kernel
    omega
  have h6 := figs_len 16 53 _ (by omega) h1
  have h7 := rz_len (figs 16 (v * 2 ^ ((4 - b % 4) % 4)))
  have h8 := itoaI_len19 ((b : Int) + x) (by omega)
  unfold fmtPT
  rw [List.length_append, List.length_append, List.length_append, List.length_append]
  split <;> simp only [List.length_cons, List.length_nil] <;> omega
theorem fmtBT_len (v b p : Nat) (x : Int) (hv : v < 2 ^ b) (hbp : b ≤ p) (hp : p ≤ 200) (hx : -100000 ≤ x ∧ x ≤ 100000) : (fmtBT v b p x).length ≤ 1000 := by
  have h1 : v * 2 ^ (p - b) < 10 ^ 200 := by
    have h2 : v * 2 ^ (p - b) < 2 ^ b * 2 ^ (p - b) := Nat.mul_lt_mul_of_pos_right hv (Nat.two_pow_pos _)
    rw [← Nat.pow_add, show b + (p - b) = p by omega] at h2
    have h3 : 2 ^ p ≤ 2 ^ 200 := Nat.pow_le_pow_right (by omega) hp
    have h4 : 2 ^ 200 ≤ 10 ^ 200 := by decide +kernel
    omega
  have h6 := figs_len 10 200 _ (by omega) h1
  have h8 := itoaI_len19 ((b : Int) + x - p) (by omega)
  unfold fmtBT
  rw [List.length_append, List.length_append, List.length_append]
  split <;> simp only [List.length_cons, List.length_nil] <;> omega
theorem zt_len (k : Nat) : (zt k).length ≤ k + 1 := by
  unfold zt
  split
  · simp
  · rw [List.length_cons, List.length_replicate]; omega
/-- The eight formats. -/
def Fm (ch : Int) : Prop := ch = 101 ∨ ch = 69 ∨ ch = 102 ∨ ch = 103 ∨ ch = 71 ∨ ch = 120 ∨ ch = 112 ∨ ch = 98
def AppOk (P vN b n : Nat) (m f x k ch : Int) (neg : Bool) (TL : List Int) : Prop :=
  ∀ (w0 W0 w : World) (g : Nat) (v : Value) (l : List Int), Fl w0 W0 g P m f neg (vN : Int) x b n → Bu W0 w v l → l.length ≤ 600000 → Pw W0 → Leaf W0 → Tb W0 → Calls Tryz.prog 38 #[.pointer (some ⟨g, 0, none⟩), v, .int .u8 ch, .int .i64 k] w (BuPost W0 (l ++ TL))
theorem zero_ok (P vN b n : Nat) (m x k ch : Int) (neg : Bool) (out : List Int)
    (h : ∀ (g : Nat) (W0 w : World) (v : Value) (l : List Int), Spc w g P m 0 neg → Bu W0 w v l → g < W0.heap.size → l.length ≤ 700000 → Calls Tryz.prog 38 #[.pointer (some ⟨g, 0, none⟩), v, .int .u8 ch, .int .i64 k] w (BuPost W0 ((l ++ sgn1 neg) ++ out))) :
    AppOk P vN b n m 0 x k ch neg (sgn1 neg ++ out) := by
  intro w0 W0 w g v l hf hb hl _ _ _
  rcases hf with ⟨h1, _⟩ | ⟨_, hge, hs⟩
  · omega
  · have hgs : g < W0.heap.size := hp_lt hs
    have hs1 : Spc w g P m 0 neg := (hb.bel.block g hgs).trans hs
    have h2 := h g W0 w v l hs1 hb hgs (by omega)
    rwa [List.append_assoc] at h2
theorem fin_ok (P vN b n : Nat) (m x k ch : Int) (neg : Bool) (out : List Int)
    (h : ∀ (w0 W0 w : World) (g : Nat) (v : Value) (l : List Int), Own w0 W0 g P m neg (vN : Int) x b → Bu W0 w v l → l.length ≤ 600000 → Pw W0 → Leaf W0 → Tb W0 → Calls Tryz.prog 38 #[.pointer (some ⟨g, 0, none⟩), v, .int .u8 ch, .int .i64 k] w (BuPost W0 ((l ++ sgn1 neg) ++ out))) :
    AppOk P vN b n m 1 x k ch neg (sgn1 neg ++ out) := by
  intro w0 W0 w g v l hf hb hl hT hL hTb
  rcases hf with ⟨_, ho, _⟩ | ⟨h1, _⟩
  · have h2 := h w0 W0 w g v l ho hb hl hT hL hTb
    rwa [List.append_assoc] at h2
  · omega
theorem appAny (P vN b n : Nat) (m f x k ch : Int) (neg : Bool) (hf : f = 0 ∨ f = 1 ∨ f = 2) (hfin : f = 1 → 0 < vN ∧ Bits (vN : Int) b ∧ b ≤ P ∧ -300 ≤ x ∧ x ≤ 300) (hP : P ≤ 200) (hm : 0 ≤ m ∧ m < 6) (hk : -1 ≤ k ∧ k ≤ 30) (hch : Fm ch) :
    ∃ TL : List Int, TL.length ≤ 6000000 ∧ AppOk P vN b n m f x k ch neg TL := by
  have hs : (sgn1 neg).length ≤ 1 := by cases neg <;> simp [sgn1]
  rcases hf with rfl | rfl | rfl
  · obtain ⟨kn, hkn⟩ | rfl : (∃ kn : Nat, k = (kn : Int)) ∨ k = -1 := by
      rcases Int.lt_or_le k 0 with h | h
      · right; omega
      · left; exact Int.eq_ofNat_of_zero_le h
    · subst hkn
      have hzl := zt_len kn
      rcases hch with rfl | rfl | rfl | rfl | rfl | rfl | rfl | rfl
      · exact ⟨_, by simp only [List.length_append, List.length_cons, List.length_nil]; omega, zero_ok P vN b n m x kn 101 neg _ (fun g W0 w v l h1 h2 h3 h4 => az_ek g P kn m neg W0 w v l h1 h2 h3 h4 (by omega))⟩
      · exact ⟨_, by simp only [List.length_append, List.length_cons, List.length_nil]; omega, zero_ok P vN b n m x kn 69 neg _ (fun g W0 w v l h1 h2 h3 h4 => az_Ek g P kn m neg W0 w v l h1 h2 h3 h4 (by omega))⟩
      · exact ⟨_, by simp only [List.length_append, List.length_cons, List.length_nil]; omega, zero_ok P vN b n m x kn 102 neg _ (fun g W0 w v l h1 h2 h3 h4 => az_fk g P kn m neg W0 w v l h1 h2 h3 h4 (by omega))⟩
      · rcases Nat.eq_zero_or_pos kn with rfl | hp
        · exact ⟨_, by simp only [List.length_append, List.length_cons, List.length_nil]; omega, zero_ok P vN b n m x 0 103 neg _ (fun g W0 w v l h1 h2 h3 h4 => az_g0 g P m neg W0 w v l h1 h2 h3 h4)⟩
        · exact ⟨_, by simp only [List.length_append, List.length_cons, List.length_nil]; omega, zero_ok P vN b n m x kn 103 neg _ (fun g W0 w v l h1 h2 h3 h4 => az_gk g P kn m neg W0 w v l h1 h2 h3 h4 (by omega))⟩
      · rcases Nat.eq_zero_or_pos kn with rfl | hp
        · exact ⟨_, by simp only [List.length_append, List.length_cons, List.length_nil]; omega, zero_ok P vN b n m x 0 71 neg _ (fun g W0 w v l h1 h2 h3 h4 => az_G0 g P m neg W0 w v l h1 h2 h3 h4)⟩
        · exact ⟨_, by simp only [List.length_append, List.length_cons, List.length_nil]; omega, zero_ok P vN b n m x kn 71 neg _ (fun g W0 w v l h1 h2 h3 h4 => az_Gk g P kn m neg W0 w v l h1 h2 h3 h4 (by omega))⟩
      · exact ⟨_, by simp only [List.length_append, List.length_cons, List.length_nil]; omega, zero_ok P vN b n m x kn 120 neg _ (fun g W0 w v l h1 h2 h3 h4 => az_xk g P kn m neg W0 w v l h1 h2 h3 h4 (by omega))⟩
      · exact ⟨_, by simp only [List.length_append, List.length_cons, List.length_nil]; omega, zero_ok P vN b n m x kn 112 neg _ (fun g W0 w v l h1 h2 h3 h4 => az_p g P kn m neg W0 w v l h1 h2 h3 h4)⟩
      · exact ⟨_, by simp only [List.length_append, List.length_cons, List.length_nil]; omega, zero_ok P vN b n m x kn 98 neg _ (fun g W0 w v l h1 h2 h3 h4 => az_b g P kn m neg W0 w v l h1 h2 h3 h4)⟩
    · rcases hch with rfl | rfl | rfl | rfl | rfl | rfl | rfl | rfl
      · exact ⟨_, by simp only [List.length_append, List.length_cons, List.length_nil]; omega, zero_ok P vN b n m x (-1) 101 neg _ (fun g W0 w v l h1 h2 h3 h4 => az_em g P m neg W0 w v l h1 h2 h3 h4)⟩
      · exact ⟨_, by simp only [List.length_append, List.length_cons, List.length_nil]; omega, zero_ok P vN b n m x (-1) 69 neg _ (fun g W0 w v l h1 h2 h3 h4 => az_Em g P m neg W0 w v l h1 h2 h3 h4)⟩
      · exact ⟨_, by simp only [List.length_append, List.length_cons, List.length_nil]; omega, zero_ok P vN b n m x (-1) 102 neg _ (fun g W0 w v l h1 h2 h3 h4 => az_fm g P m neg W0 w v l h1 h2 h3 h4)⟩
      · exact ⟨_, by simp only [List.length_append, List.length_cons, List.length_nil]; omega, zero_ok P vN b n m x (-1) 103 neg _ (fun g W0 w v l h1 h2 h3 h4 => az_gm g P m neg W0 w v l h1 h2 h3 h4)⟩
      · exact ⟨_, by simp only [List.length_append, List.length_cons, List.length_nil]; omega, zero_ok P vN b n m x (-1) 71 neg _ (fun g W0 w v l h1 h2 h3 h4 => az_Gm g P m neg W0 w v l h1 h2 h3 h4)⟩
      · exact ⟨_, by simp only [List.length_append, List.length_cons, List.length_nil]; omega, zero_ok P vN b n m x (-1) 120 neg _ (fun g W0 w v l h1 h2 h3 h4 => az_xm g P m neg W0 w v l h1 h2 h3 h4)⟩
      · exact ⟨_, by simp only [List.length_append, List.length_cons, List.length_nil]; omega, zero_ok P vN b n m x (-1) 112 neg _ (fun g W0 w v l h1 h2 h3 h4 => az_p g P (-1) m neg W0 w v l h1 h2 h3 h4)⟩
      · exact ⟨_, by simp only [List.length_append, List.length_cons, List.length_nil]; omega, zero_ok P vN b n m x (-1) 98 neg _ (fun g W0 w v l h1 h2 h3 h4 => az_b g P (-1) m neg W0 w v l h1 h2 h3 h4)⟩
  · obtain ⟨hv0, hb, hbP, hx0, hx1⟩ := hfin rfl
    have hvb : vN < 2 ^ b := Int.ofNat_lt.1 (by rw [Int.natCast_pow]; exact hb.2.1)
    obtain ⟨hi0, hi9, _⟩ := initD_bd hv0 hb (by omega) ⟨hx0, hx1⟩
    have hs0 := shortV_bd (p := P) hv0 hb (by omega) ⟨hx0, hx1⟩
    have five : (ch = 101 ∨ ch = 69 ∨ ch = 102 ∨ ch = 103 ∨ ch = 71) → ∃ TL : List Int, TL.length ≤ 6000000 ∧ AppOk P vN b n m 1 x k ch neg TL := fun h5 =>
      ⟨_, by rw [List.length_append]; have := finT_len hi0 hs0 ch k (by omega); omega, fin_ok P vN b n m x k ch neg (finT vN b P x ch k) (fun w0 W0 w g v l h1 h2 h3 h4 h6 h7 => appK_c g P vN b m x k ch neg w0 W0 w v l h1 hv0 hb hbP hP ⟨hx0, hx1⟩ h2 (by omega) h4 h6 h7 (by omega) h5)⟩
    rcases hch with h | h | h | h | h | rfl | rfl | rfl
    · exact five (by omega)
    · exact five (by omega)
    · exact five (by omega)
    · exact five (by omega)
    · exact five (by omega)
    · obtain ⟨z, o, hod⟩ := oddOf hb hv0
      obtain ⟨k1, hk1, hK⟩ : ∃ k1 : Nat, k1 ≤ 110 ∧ ((k < 0 ∧ ∃ z, Tz (vN : Int) z ∧ z < b ∧ k1 = (b - z + 2) / 4) ∨ k = (k1 : Int)) := by
        rcases Int.lt_or_le k 0 with h | h
        · exact ⟨(b - z + 2) / 4, by omega, .inl ⟨h, z, hod.tz, hod.lt, rfl⟩⟩
        · obtain ⟨kn, rfl⟩ := Int.eq_ofNat_of_zero_le h
          exact ⟨kn, by omega, .inr rfl⟩
      exact ⟨_, by rw [List.length_append]; have := fmtXT_len neg m vN b k1 x hk1 (by omega) (by omega); omega, fin_ok P vN b n m x k 120 neg (fmtXT neg m vN b (4 * k1 + 1) x) (fun w0 W0 w g v l h1 h2 h3 h4 h6 h7 => appX_c g P vN b (4 * k1 + 1) k1 m x k neg w0 W0 w v l h1 hv0 hb hbP (by omega) hm (by omega) rfl hk1 hK h2 (by omega) h4 h7)⟩
    · exact ⟨_, by rw [List.length_append]; have := fmtPT_len vN b x (Nat.lt_of_lt_of_le hvb (Nat.pow_le_pow_right (by omega) (by omega))) (by omega) (by omega); omega, fin_ok P vN b n m x k 112 neg (fmtPT vN b x) (fun w0 W0 w g v l h1 h2 h3 h4 h6 h7 => appP_c g P vN b m x k neg w0 W0 w v l h1 hv0 hb hbP (by omega) (by omega) h2 (by omega) h4 h7)⟩
    · exact ⟨_, by rw [List.length_append]; have := fmtBT_len vN b P x hvb hbP (by omega) (by omega); omega, fin_ok P vN b n m x k 98 neg (fmtBT vN b P x) (fun w0 W0 w g v l h1 h2 h3 h4 h6 h7 => appB_c g P vN b m x k neg w0 W0 w v l h1 hv0 hb hbP (by omega) (by omega) h2 (by omega) h4 h6)⟩
  · refine ⟨infT neg, by simp [infT], ?_⟩
    intro w0 W0 w g v l hfl hbu hl _ _ _
    rcases hfl with ⟨h1, _⟩ | ⟨_, hge, hs⟩
    · omega
    · have hgs : g < W0.heap.size := hp_lt hs
      have hs1 : Spc w g P m 2 neg := (hbu.bel.block g hgs).trans hs
      exact append_inf g P m ch k neg W0 w v l hs1 hbu hgs (by omega)
end Go.Proofs.YtfnknldbjckgoaaGreatDoor.Sp
