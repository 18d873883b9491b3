/-
  CONTRACTS of Float.validate0 and Float.GobDecode at a finite value.
-/
import Derived.Test.YtglikgjaobedbaaDoorGobE
import Derived.Laws.BitsAllLaws
namespace Go.Proofs.YtglikgjaobedbaaDoor.Sp
open Go.RowKit Go.Proofs.YtglikgjaobedbaaDoorW.PrintWords Go.Proofs.YtglikgjaobedbaaDoorW.PrintLast Go.Proofs.YtglikgjaobedbaaDoorW.PrintMore Go.Proofs.YtglikgjaobedbaaDoor.Dig
set_option linter.unusedVariables false
set_option linter.unusedSimpArgs false
theorem msb_and {x : Int} (h0 : 9223372036854775808 ≤ x) (h1 : x < 18446744073709551616) : (Go.bits .and .u64 x 9223372036854775808 == 0) = false := by
  rw [u64_and x _ (by omega) h1 (by omega) (by omega), beq_eq_false_iff_ne]
  intro e
  have h2 : x.toNat.testBit 63 = true := by
    rw [Nat.testBit_eq_decide_div_mod_eq]
    simp
    omega
  have h3 : (x.toNat &&& (9223372036854775808 : Int).toNat).testBit 63 = true := by
    rw [Nat.testBit_and, h2]
    rfl
  have e2 : x.toNat &&& (9223372036854775808 : Int).toNat = 0 := by omega
  rw [e2] at h3
  simp at h3
set_option maxHeartbeats 3200000 in
set_option maxRecDepth 100000 in
theorem valid_c (g mb p : Nat) (m acc : Int) (neg : Bool) (c : Nat) (E : Int) (L R : List Int) (w : World) (h : Flt w g mb p m acc 1 neg L.length c E (L ++ R)) (hc : Canon p L) (hp1 : 1 ≤ p) (hbig : L.length ≤ 900000) :
    Calls Tryd.prog 87 #[.pointer (some ⟨g, 0, none⟩)] w fun e w' => e = .returned (.string ByteArray.empty) ∧ w = w' := by
  obtain ⟨k, hk⟩ : ∃ k, L.length = k + 1 := ⟨L.length - 1, by have := hc.pos; omega⟩
  have htop := hc.top
  unfold Top at htop
  have hx := okd_get hc.ok BW_pos k
  rw [BW_def] at hx
  rw [show L.length - 1 = k by omega] at htop
  have hcell : w.cell? ⟨mb, k, none⟩ = some (.int .u64 (L.getD k 0)) := by
    refine ((blk_cell h.mant k).trans (u64s_get _ k (by rw [List.length_append]; omega))).trans ?_
    congr 2
    simp only [List.getD_eq_getElem?_getD]
    rw [List.getElem?_append_left (by omega)]
  obtain ⟨x, hxx⟩ : ∃ x, x = L.getD k 0 := ⟨_, rfl⟩
  rw [← hxx] at htop hx hcell
  have hand := msb_and htop hx.2
  have hpb : ((p : Int) == 0) = false := by rw [beq_eq_false_iff_ne]; omega
  obtain ⟨c0, c1, c2, c3, c4, c5, c6, f0, f1, f2, f3, f4, f5, f6⟩ := blk7 h.flt
  rw [hk] at c5
  have hk1 : (((k + 1 : Nat) : Int) == 0) = false := by rw [beq_eq_false_iff_ne]; omega
  have hk2 : ((k + 1 : Nat) : Int) - 1 = (k : Int) := by omega
  have hk3 : (k : Int) < ((k + 1 : Nat) : Int) := by omega
  have hkb : k ≤ 900000 := by omega
  clear h hc hxx htop hx hk hbig
  go_enter Tryd.func87, Tryd.ntmps87
  go_wp2_with (fail)
  go_ret
  exact ⟨rfl, rfl⟩
theorem encF_6 (p : Nat) (m : Int) (neg : Bool) (E : Int) (L : List Int) : ((encF p m neg E L).drop 6).take 4 = be4 (E % 4294967296) := by
  simp [encF, be4]
theorem encF_2 (p : Nat) (m : Int) (neg : Bool) (E : Int) (L : List Int) : ((encF p m neg E L).drop 2).take 4 = be4 p := by
  simp [encF, be4]
theorem encF_10 (p : Nat) (m : Int) (neg : Bool) (E : Int) (L : List Int) : (encF p m neg E L).drop 10 = (le L).reverse := by
  simp [encF, be4]
end Go.Proofs.YtglikgjaobedbaaDoor.Sp
