/-
  CONTRACT of the reference's General at a text with an exponent.
-/
import Derived.Test.YtfnknldbjckgoaaGreatDoorGx2
import Derived.Deep.CutBlock
import Derived.Deep.LoopGhost
namespace Go.Proofs.YtfnknldbjckgoaaGreatDoor.Sp
open Go.RowKit Go.Proofs.YtfnknldbjckgoaaGreatDoorW.PrintWords Go.Proofs.YtfnknldbjckgoaaGreatDoorW.PrintLast Go.Proofs.YtfnknldbjckgoaaGreatDoorW.PrintMore Go.Proofs.YtfnknldbjckgoaaGreatDoor.Dig
set_option linter.unusedVariables false
set_option linter.unusedSimpArgs false
theorem expF_len9 (x : Int) (h : x.natAbs < 10 ^ 8) : 2 ≤ (expF x).length ∧ (expF x).length ≤ 9 := by
  refine ⟨(expF_len x (by omega)).1, ?_⟩
  have h1 : (itoaT x.natAbs).length ≤ 8 := by
    unfold itoaT
    split
    · simp
    · exact figs_len 10 8 _ (by omega) h
  unfold expF
  split
  · simp; omega
  · simp; omega
theorem str_size (S : ByteArray) (l : List Int) (h : S = strOfNums l) : S.size = l.length := by rw [h, strOfNums_sz]
set_option maxHeartbeats 12800000 in
set_option maxRecDepth 100000 in
theorem general_c (neg : Bool) (a : List Int) (x p : Int) (short : Bool) (w : World) (ha : ∀ c ∈ a, c = 46 ∨ (48 ≤ c ∧ c ≤ 57)) (ha0 : 0 < a.length) (ha9 : a.length ≤ 9000) (hx : -1300000 ≤ x ∧ x ≤ 2000) (hp : 0 ≤ p ∧ p ≤ 1000) (hd : Dc (rz (a.filter fun c => c != 46))) :
    Calls Tryz.prog 18 #[.string (strOfNums (sgn1 neg ++ (a ++ 101 :: (if x < 0 then 45 else 43) :: expF x))), .int .i64 p, .bool short] w fun e w' => e = .returned (.string (strOfNums (sgn1 neg ++ gen2 (rz (a.filter fun c => c != 46)) x p short))) ∧ Below w.heap.size w w' := by
  obtain ⟨he2, he9⟩ := expF_len9 x (by omega)
  have hed := expF_dec x
  have hev := dval_exp x
  obtain ⟨e, hE⟩ : ∃ e, e = expF x := ⟨_, rfl⟩
  rw [← hE] at he2 he9 hed hev ⊢
  obtain ⟨sg, hsg⟩ : ∃ sg : Int, sg = (if x < 0 then 45 else 43) := ⟨_, rfl⟩
  rw [← hsg]
  obtain ⟨L, hL⟩ : ∃ L, L = a ++ 101 :: sg :: e := ⟨_, rfl⟩
  rw [← hL]
  obtain ⟨na, hna⟩ : ∃ na, na = a.length := ⟨_, rfl⟩
  obtain ⟨ne, hne⟩ : ∃ ne, ne = e.length := ⟨_, rfl⟩
  obtain ⟨n1, hn1⟩ : ∃ n1, n1 = na + 1 := ⟨_, rfl⟩
  obtain ⟨n2, hn2⟩ : ∃ n2, n2 = na + 2 := ⟨_, rfl⟩
  obtain ⟨nL, hnL⟩ : ∃ nL, nL = n2 + ne := ⟨_, rfl⟩
  have hLl : L.length = nL := by rw [hL, List.length_append, List.length_cons, List.length_cons]; omega
  have hLa : ∀ j, j < na → L.getD j 0 = a.getD j 0 := fun j hj => by rw [hL]; exact getD_left _ _ _ (by omega)
  have hLe : L.getD na 0 = 101 := by rw [hL, hna]; simp
  have hLs : L.getD n1 0 = sg := by rw [hL, hn1, hna]; simp
  have hLx : ∀ i, L.getD (n2 + i) 0 = e.getD i 0 := fun i => by
    have := getD_right a (101 :: sg :: e) (i + 1 + 1)
    rw [hL, hn2, hna, show a.length + 2 + i = a.length + (i + 1 + 1) by omega, this, List.getD_cons_succ, List.getD_cons_succ]
  obtain ⟨SL, hSL⟩ : ∃ SL, SL = strOfNums L := ⟨_, rfl⟩
  obtain ⟨SG, hSG⟩ : ∃ SG, SG = strOfNums (sgn1 neg) := ⟨_, rfl⟩
  have hsz : SL.size = nL := by rw [hSL, strOfNums_sz, hLl]
  have HIX : Aside0 (∀ (j : Nat) (y : Int), j < nL → L.getD j 0 = y → 0 ≤ y → y < 256 → ∀ h : j < SL.size, ((SL[j]'h).toNat : Int) = y) := ⟨by
    intro j y hj hy h0 h1 h
    subst hSL hy
    exact str_at L j (by omega) h ⟨h0, h1⟩⟩
  obtain ⟨F, hF⟩ : ∃ F, F = a.filter fun c => c != 46 := ⟨_, rfl⟩
  obtain ⟨fl, hfl⟩ : ∃ fl, fl = F.length := ⟨_, rfl⟩
  have hflna : fl ≤ na := by rw [hfl, hF, hna]; exact List.length_filter_le _ _
  have hfl9 : fl ≤ 9000 := by omega
  rw [← hF] at hd ⊢
  obtain ⟨ds, hds⟩ : ∃ ds, ds = rz F := ⟨_, rfl⟩
  rw [← hds] at hd ⊢
  obtain ⟨n, hn⟩ : ∃ n, n = ds.length := ⟨_, rfl⟩
  have hn0 : 1 ≤ n := by rw [hn]; exact hd.pos
  have hn9 : n ≤ 9000 := by
    have := rz_len F
    rw [← hds] at this
    omega
  have HFD : Aside0 (∀ c ∈ F, 48 ≤ c ∧ c ≤ 57) := ⟨fun c hc => by
    rw [hF] at hc
    obtain ⟨h1, h2⟩ := List.mem_filter.1 hc
    rcases ha c h1 with h | h
    · simp [h] at h2
    · exact h⟩
  obtain ⟨TT, hTT⟩ : ∃ TT, TT = strOfNums (sgn1 neg ++ gen2 ds x p short) := ⟨_, rfl⟩
  rw [← hTT]
  obtain ⟨pp, hpp⟩ : ∃ pp : Int, pp = if short = true then (ds.length : Int) else p := ⟨_, rfl⟩
  obtain ⟨e1, he1⟩ : ∃ e1 : Int, e1 = if (ds.length : Int) < pp ∧ x + 1 ≤ (ds.length : Int) then (ds.length : Int) else pp := ⟨_, rfl⟩
  obtain ⟨eg, heg⟩ : ∃ eg : Int, eg = if short = true then 6 else e1 := ⟨_, rfl⟩
  obtain ⟨qq, hqq⟩ : ∃ qq : Int, qq = if x + 1 < pp then (ds.length : Int) else pp := ⟨_, rfl⟩
  have HG : Aside0 (gen2 ds x p short = if x < -4 ∨ eg ≤ x then ds.take 1 ++ behind ds (if pp < (ds.length : Int) then pp else (ds.length : Int)).toNat ++ 101 :: expT x else
      ((List.range ((max x 0).toNat + 1)).map fun i => if 0 ≤ x ∧ i < ds.length then ds.getD i 0 else 48) ++ (if 0 < max (qq - x - 1) 0 then [46] else []) ++ ((List.range (max (qq - x - 1) 0).toNat).map fun (i : Nat) => atI ds (x + 1 + (i : Int)))) := ⟨by rw [hqq, heg, he1, hpp]; rfl⟩
  rw [← hn] at hpp he1 hqq HG
  have hpp9 : 0 ≤ pp ∧ pp ≤ 9000 := by split at hpp <;> omega
  have HPP := Aside0.mk hpp
  have HE1 := Aside0.mk he1
  have HEG := Aside0.mk heg
  have HQQ := Aside0.mk hqq
  clear hpp he1 heg hqq
  have HTT := Aside0.mk hTT
  have HSG := Aside0.mk hSG
  have HSL := Aside0.mk hSL
  have HF := Aside0.mk hF
  have HFL := Aside0.mk hfl
  have HDS := Aside0.mk hds
  have HN := Aside0.mk hn
  have HLA := Aside0.mk hLa
  have HLE := Aside0.mk hLe
  have HLS := Aside0.mk hLs
  have HLX := Aside0.mk hLx
  have HSGN := Aside0.mk hsg
  have HA := Aside0.mk ha
  have HED := Aside0.mk hed
  have HEV := Aside0.mk hev
  have HNA := Aside0.mk hna
  have HNE := Aside0.mk hne
  have HN1 := Aside0.mk hn1
  have HN2 := Aside0.mk hn2
  have HNL := Aside0.mk hnL
  have HB9 : Aside0 (na ≤ 9000 ∧ 0 < na ∧ 2 ≤ ne ∧ ne ≤ 9) := ⟨by omega⟩
  obtain ⟨S0, hS0⟩ : ∃ S0, S0 = strOfNums (sgn1 neg ++ L) := ⟨_, rfl⟩
  rw [← hS0]
  have HS0 := Aside0.mk hS0
  have hx1 : -1300000 ≤ x := hx.1
  have hx2 : x ≤ 2000 := hx.2
  have hp1 : 0 ≤ p := hp.1
  have hp2 : p ≤ 1000 := hp.2
  have hnai : (na : Int) < (nL : Int) := by omega
  have hnan : na < nL := by omega
  have hn1n : n1 < nL := by omega
  have hnLi : nL ≤ 10000 := by omega
  have hna1 : (na : Int) + 1 = (n1 : Int) := by omega
  have hna2 : (na : Int) + 2 = (n2 : Int) := by omega
  have hn1w : IntKind.i64.wrap (n1 : Int) = (n1 : Int) := IntWalk.i64_in _ (by omega)
  have hn2w : IntKind.i64.wrap (n2 : Int) = (n2 : Int) := IntWalk.i64_in _ (by omega)
  clear he2 he9 hed hev hE hsg hL hna hne hn1 hn2 hnL hLl hLa hLe hLs hLx hSL hSG hF hfl hds hn hTT ha ha0 ha9 hS0 hx hp hd
  obtain ⟨y0, hy0⟩ : ∃ y0, y0 = (sgn1 neg ++ L).getD 0 0 := ⟨_, rfl⟩
  obtain ⟨z0, hz0⟩ : ∃ z0, S0.size = z0 := ⟨_, rfl⟩
  have hz0p : 0 < z0 ∧ z0 = nL + (sgn1 neg).length := by
    rw [← hz0, HS0.out, strOfNums_sz, List.length_append, show L.length = SL.size by rw [HSL.out, strOfNums_sz], hsz]
    omega
  have hz0l : 0 < z0 := hz0p.1
  have HZ0 : Aside0 (z0 = nL + (sgn1 neg).length) := ⟨hz0p.2⟩
  have hz0i : (0 : Int) < (z0 : Int) := by omega
  have HY0 : Aside0 ((neg = true ∧ y0 = 45) ∨ (neg = false ∧ y0 ≠ 45 ∧ 0 ≤ y0 ∧ y0 < 256)) := ⟨by
    cases neg with
    | true => exact .inl ⟨rfl, by rw [hy0]; rfl⟩
    | false =>
      have h1 : y0 = a.getD 0 0 := by rw [hy0, ← HLA.out 0 (by have := HB9.out; omega)]; rfl
      have h2 := HA.out _ (getD_memI (l := a) (k := 0) (by have := HNA.out; have := HB9.out; omega))
      rw [← h1] at h2
      exact .inr ⟨rfl, by omega, by omega, by omega⟩⟩
  have hi0 : ∀ h : 0 < S0.size, ((S0[0]'h).toNat : Int) = y0 := by
    have h1 := HS0.out
    subst h1
    intro h
    rw [hy0]
    exact str_at _ 0 (by rw [strOfNums_sz] at h; exact h) h (by rw [← hy0]; have := HY0.out; omega)
  clear hz0p hy0
  go_enter Tryz.func18, Tryz.ntmps18
  go_upto_if 22 with (fail)
  go_cut [0, 7] (fun v0 v7 wx => v0 = .string SL ∧ v7 = .string SG ∧ Aside0 (Below w.heap.size w wx))
  case first => as_aux_lemma =>
    rcases HY0.out with ⟨hng, rfl⟩ | ⟨hng, hne, _, _⟩
    · subst hng
      obtain rfl : z0 = nL + 1 := HZ0.out
      have hcut : S0.extract 1 (nL + 1) = SL := by
        rw [HS0.out, HSL.out, str_ext]
        congr 1
        rw [show sgn1 true = [45] from rfl, List.singleton_append, List.drop_succ_cons, List.drop_zero, Nat.add_sub_cancel]
        apply List.take_of_length_le
        rw [show L.length = SL.size by rw [HSL.out, strOfNums_sz], hsz]
        exact Nat.le_refl _
      have hz1 : 1 ≤ nL + 1 := by omega
      have hz2 : (1 : Int) ≤ (nL : Int) + 1 := by omega
      have hsg2 : (⟨#[45]⟩ : ByteArray) = SG := by rw [HSG.out]; rfl
      go_wp2_with (go_quiet (fail))
      go_meet
      case rel => exact ⟨by first | rfl | rw [hcut], by first | rfl | rw [hsg2], ⟨⟨(Below.refl w.heap.size w).os, (Below.refl w.heap.size w).tape, (Below.refl w.heap.size w).output, (Below.refl w.heap.size w).size, (Below.refl w.heap.size w).block⟩⟩⟩
    · subst hng
      obtain rfl : S0 = SL := by rw [HS0.out, HSL.out]; rfl
      have hyb : (y0 == 45) = false := by rw [beq_eq_false_iff_ne]; exact hne
      have HSG2 : Aside0 ((⟨#[]⟩ : ByteArray) = SG) := ⟨by rw [HSG.out]; rfl⟩
      go_wp2_with (fail)
      go_meet
      case rel => exact ⟨rfl, by rw [← HSG2.out], ⟨Below.refl _ _⟩⟩
  case rest =>
    obtain ⟨rfl, rfl, HBW⟩ := hcut
    obtain ⟨w3, hw3⟩ : ∃ w3, w3 = wc := ⟨_, rfl⟩
    rw [← hw3] at HBW ⊢
    clear hw3 hi0 hz0 HY0 HZ0 hz0l hz0i
    go_wp2_with (fail)
    go_loopg [8, 10] na (fun k v8 v10 wr => ∃ (D : ByteArray) (j : Nat), v8 = .string D ∧ v10 = .int .i64 (j : Int) ∧ j + k = na ∧ Aside0 (D = strOfNums ((a.take j).filter fun c => c != 46)) ∧ Aside0 (D.size ≤ j) ∧ w3 = wr)
    case atStart => exact ⟨_, 0, rfl, rfl, by omega, ⟨rfl⟩, ⟨by decide⟩, rfl⟩
    case round =>
      obtain ⟨D, j, rfl, rfl, hj, HD, HDZ, rfl⟩ := hrel
      by_cases hg : gk = 0
      · subst hg
        obtain rfl : na = j := by omega
        have hi := HIX.out na 101 hnan HLE.out (by omega) (by omega)
        have HDF : Aside0 (D = strOfNums F) := ⟨by rw [HD.out, HF.out, HNA.out, List.take_length]⟩
        clear HD HDZ hj
        go_wp2_with (fail)
        clear hi
        go_loopg [9, 11] ne (fun k v9 v11 wr => ∃ (K : Int) (j i : Nat), v9 = .int .i64 K ∧ v11 = .int .i64 (i : Int) ∧ j + k = ne ∧ Aside0 (i = n2 + j) ∧ Aside0 (K = dval (e.take j)) ∧ w3 = wr)
        case atStart => exact ⟨0, 0, n2, rfl, rfl, by omega, ⟨rfl⟩, ⟨rfl⟩, rfl⟩
        case round =>
          obtain ⟨K, j, i, rfl, rfl, hj, HI, HK, rfl⟩ := hrel
          have hkb : 0 ≤ K ∧ K ≤ 1000000000 := by
            have h1 := dval_lt j (e.take j) (by rw [List.length_take]; have := HNE.out; omega) (fun c hc => HED.out c (List.mem_of_mem_take hc))
            rw [← HK.out] at h1
            have h2 : (10 : Int) ^ j = ((10 ^ j : Nat) : Int) := by rw [Int.natCast_pow]; rfl
            have h3 : 10 ^ j ≤ 10 ^ 9 := Nat.pow_le_pow_right (by omega) (by have := HB9.out; omega)
            omega
          by_cases hg : gk = 0
          · subst hg
            obtain rfl : ne = j := by omega
            have hI : i = nL := by have := HI.out; have := HNL.out; omega
            subst hI
            have HKV : Aside0 (K = (x.natAbs : Int)) := ⟨by rw [HK.out, HNE.out, List.take_length, HEV.out]⟩
            clear HK HI hj
            have hi1 := HIX.out n1 sg hn1n HLS.out (by rw [HSGN.out]; split <;> omega) (by rw [HSGN.out]; split <;> omega)
            go_upto_if 68 with (fail)
            go_cut [9] (fun v9 wx => v9 = .int .i64 x ∧ w3 = wx)
            case first => as_aux_lemma =>
              have hxw : IntKind.i64.wrap x = x := IntWalk.i64_in _ (by omega)
              by_cases hx0 : x < 0
              · have hs2 : sg = 45 := by rw [HSGN.out, if_pos hx0]
                subst hs2
                have hKx : -K = x := by have := HKV.out; omega
                clear hkb
                go_wp2_with (fail)
                go_meet
                case rel => exact ⟨rfl, rfl⟩
              · have hs2 : sg = 43 := by rw [HSGN.out, if_neg hx0]
                subst hs2
                obtain rfl : K = x := by have := HKV.out; omega
                go_wp2_with (fail)
                go_meet
                case rel => exact ⟨rfl, rfl⟩
            case rest =>
              obtain ⟨rfl, rfl⟩ := hcut
              clear hi1 HKV hkb HIX HLE HLS HLX HSGN HED HEV HNE HN1 HN2 HNL hnai hnan hn1n hna1 hna2 hn1w hn2w HLA HSL HS0
              have HF0 : Aside0 (D = strOfNums (F.take fl)) := ⟨by rw [HDF.out, HFL.out, List.take_length]⟩
              have HRZ : Aside0 (rz F ≠ []) := ⟨by rw [← HDS.out]; intro h; have := HN.out; rw [h] at this; simp at this; omega⟩
              go_wp2_with (fail)
              go_loopg [8] fl (fun k v8 wr => ∃ S, v8 = .string S ∧ k ≤ fl ∧ Aside0 (S = strOfNums (F.take k)) ∧ S.size = k ∧ Aside0 (∀ j : Nat, k ≤ j → j < F.length → F.getD j 0 = (48 : Int)) ∧ w3 = wr)
              case atStart => exact ⟨_, rfl, Nat.le_refl _, HF0, by rw [HF0.out, strOfNums_sz, List.length_take]; have := HFL.out; omega, ⟨fun j h1 h2 => by have := HFL.out; omega⟩, rfl⟩
              case round =>
                obtain ⟨S, rfl, hk, HS, hSz, HZ, rfl⟩ := hrel
                by_cases hn0 : gk = 0
                · subst hn0
                  exact absurd (rz_of F 0 (Nat.zero_le _) HZ.out (.inl rfl)).symm (by rw [List.take_zero]; exact HRZ.out)
                · obtain ⟨q, hq⟩ : ∃ q, gk = q + 1 := ⟨gk - 1, by omega⟩
                  have hqF : q < F.length := by have := HFL.out; omega
                  obtain ⟨y, hy⟩ : ∃ y, y = F.getD q 0 := ⟨_, rfl⟩
                  have hyd : 48 ≤ y ∧ y ≤ 57 := by
                    rw [hy]
                    exact HFD.out _ (getD_memI hqF)
                  have hty : (F.take gk).getD q 0 = y := by
                    rw [hy, List.getD_eq_getElem?_getD, List.getD_eq_getElem?_getD, List.getElem?_take, if_pos (by omega)]
                  have hix : ∀ h : q < S.size, ((S[q]'h).toNat : Int) = y := by
                    have h1 := HS.out
                    subst h1
                    intro h
                    rw [str_at _ q (by rw [List.length_take]; omega) h (by rw [hty]; omega), hty]
                  obtain ⟨S2, hS2⟩ : ∃ S2, S2 = strOfNums (F.take q) := ⟨_, rfl⟩
                  have hcut : S.extract 0 q = S2 := by rw [HS.out, hS2]; exact str_cut F gk q (by omega)
                  have HS2 := Aside0.mk hS2
                  have hS2z : S2.size = q := by rw [hS2, strOfNums_sz, List.length_take]; omega
                  have HY := Aside0.mk hy
                  have HQ := Aside0.mk hq
                  have hq1 : (gk : Int) - 1 = (q : Int) := by omega
                  have hq1w : IntKind.i64.wrap (q : Int) = (q : Int) := IntWalk.i64_in _ (by omega)
                  have hg0 : 0 < gk := by omega
                  have hg0i : (0 : Int) < (gk : Int) := by omega
                  have hq155 : q < 10000 := by omega
                  have hqg : q < gk := by omega
                  have hqg2 : q ≤ gk := by omega
                  have hqf : q ≤ fl := by omega
                  by_cases h48 : y = 48
                  · subst h48
                    have HZ2 : Aside0 (∀ j : Nat, q ≤ j → j < F.length → F.getD j 0 = (48 : Int)) := ⟨fun j h1 h2 => by
                      rcases Nat.lt_or_ge q j with h3 | h3
                      · exact HZ.out j (by omega) h2
                      · obtain rfl : j = q := by omega
                        exact HY.out.symm⟩
                    clear hq hy hty hS2 hyd
                    go_wp2_with (fail)
                    go_roundg q
                    case measure => exact hqg
                    case rel => exact ⟨S2, by first | rfl | simp, hqf, HS2, hS2z, HZ2, rfl⟩
                  · have hxb : (y == 48) = false := by rw [beq_eq_false_iff_ne]; exact h48
                    have hrz : F.take gk = rz F := rz_of F gk (by have := HFL.out; omega) HZ.out (.inr (by rw [hq, Nat.add_sub_cancel, ← hy]; exact h48))
                    have HSD : Aside0 (S = strOfNums ds) := ⟨by rw [HS.out, hrz, HDS.out]⟩
                    obtain rfl : n = gk := by rw [← hSz, HSD.out, strOfNums_sz, HN.out]
                    clear hq hy hty hS2 hyd hrz hcut hS2z HS2 HY HQ HZ HS
                    go_upto_if 89 with (fail)
                    go_cut [1] (fun v1 wx => v1 = .int .i64 pp ∧ w3 = wx)
                    case first => as_aux_lemma =>
                      cases short with
                      | true =>
                        have HE : Aside0 (pp = (n : Int)) := ⟨by rw [HPP.out]; rfl⟩
                        go_wp2_with (fail)
                        go_meet
                        case rel => exact ⟨by rw [HE.out], rfl⟩
                      | false =>
                        have HE : Aside0 (pp = p) := ⟨by rw [HPP.out]; rfl⟩
                        go_wp2_with (fail)
                        go_meet
                        case rel => exact ⟨by rw [HE.out], rfl⟩
                    case rest =>
                      obtain ⟨rfl, rfl⟩ := hcut
                      have hx1w : IntKind.i64.wrap (x + 1) = x + 1 := IntWalk.i64_in _ (by omega)
                      obtain ⟨C1, hC1⟩ : ∃ C1 : Bool, C1 = decide ((n : Int) < pp ∧ x + 1 ≤ (n : Int)) := ⟨_, rfl⟩
                      have HC1 := Aside0.mk hC1
                      clear hC1
                      go_upto_region 21 with (fail)
                      go_cut [100] (fun v100 wx => v100 = .bool C1 ∧ w3 = wx)
                      case first => as_aux_lemma =>
                        by_cases h1 : (n : Int) < pp
                        · by_cases h2 : x + 1 ≤ (n : Int)
                          · have HE : Aside0 (C1 = true) := ⟨by rw [HC1.out]; exact decide_eq_true ⟨h1, h2⟩⟩
                            go_wp2_with (fail)
                            go_meet
                            case rel => exact ⟨by rw [HE.out], rfl⟩
                          · have HE : Aside0 (C1 = false) := ⟨by rw [HC1.out]; exact decide_eq_false (fun h => h2 h.2)⟩
                            go_wp2_with (fail)
                            go_meet
                            case rel => exact ⟨by rw [HE.out], rfl⟩
                        · have HE : Aside0 (C1 = false) := ⟨by rw [HC1.out]; exact decide_eq_false (fun h => h1 h.1)⟩
                          go_wp2_with (fail)
                          go_meet
                          case rel => exact ⟨by rw [HE.out], rfl⟩
                      case rest =>
                        obtain ⟨rfl, rfl⟩ := hcut
                        have HEC : Aside0 (e1 = if C1 = true then (n : Int) else pp) := ⟨by rw [HE1.out, HC1.out]; simp only [decide_eq_true_eq]⟩
                        go_upto_if 100 with (fail)
                        go_cut [13] (fun v13 wx => v13 = .int .i64 e1 ∧ w3 = wx)
                        case first => as_aux_lemma =>
                          cases C1 with
                          | true =>
                            have HE : Aside0 (e1 = (n : Int)) := ⟨by rw [HEC.out]; rfl⟩
                            go_wp2_with (fail)
                            go_meet
                            case rel => exact ⟨by rw [HE.out], rfl⟩
                          | false =>
                            have HE : Aside0 (e1 = pp) := ⟨by rw [HEC.out]; rfl⟩
                            go_wp2_with (fail)
                            go_meet
                            case rel => exact ⟨by rw [HE.out], rfl⟩
                        case rest =>
                          obtain ⟨rfl, rfl⟩ := hcut
                          clear HEC HC1
                          go_upto_if 102 with (fail)
                          go_cut [13] (fun v13 wx => v13 = .int .i64 eg ∧ w3 = wx)
                          case first => as_aux_lemma =>
                            cases short with
                            | true =>
                              have HE : Aside0 (eg = 6) := ⟨by rw [HEG.out]; rfl⟩
                              go_wp2_with (fail)
                              go_meet
                              case rel => exact ⟨by rw [HE.out], rfl⟩
                            | false =>
                              have HE : Aside0 (eg = e1) := ⟨by rw [HEG.out]; rfl⟩
                              go_wp2_with (fail)
                              go_meet
                              case rel => exact ⟨by rw [HE.out], rfl⟩
                          case rest =>
                            obtain ⟨rfl, rfl⟩ := hcut
                            obtain ⟨C2, hC2⟩ : ∃ C2 : Bool, C2 = decide (x < -4 ∨ eg ≤ x) := ⟨_, rfl⟩
                            have HC2 := Aside0.mk hC2
                            clear hC2
                            go_upto_region 25 with (fail)
                            go_cut [109] (fun v109 wx => v109 = .bool C2 ∧ w3 = wx)
                            case first => as_aux_lemma =>
                              by_cases h1 : x < -4
                              · have HE : Aside0 (C2 = true) := ⟨by rw [HC2.out]; exact decide_eq_true (.inl h1)⟩
                                have h1d : decide (x < -4) = true := decide_eq_true h1
                                go_wp2_with (fail)
                                go_meet
                                case rel => exact ⟨by rw [HE.out], rfl⟩
                              · have h1d : decide (x < -4) = false := decide_eq_false h1
                                by_cases h2 : eg ≤ x
                                · have HE : Aside0 (C2 = true) := ⟨by rw [HC2.out]; exact decide_eq_true (.inr h2)⟩
                                  go_wp2_with (fail)
                                  go_meet
                                  case rel => exact ⟨by rw [HE.out], rfl⟩
                                · have HE : Aside0 (C2 = false) := ⟨by rw [HC2.out]; exact decide_eq_false (fun h => h.elim h1 h2)⟩
                                  go_wp2_with (fail)
                                  go_meet
                                  case rel => exact ⟨by rw [HE.out], rfl⟩
                            case rest =>
                              obtain ⟨rfl, rfl⟩ := hcut
                              cases C2 with
                              | true =>
                                have HEX : Aside0 (x < -4 ∨ eg ≤ x) := ⟨by have := HC2.out; exact of_decide_eq_true this.symm⟩
                                obtain ⟨n3, hn3⟩ := Int.eq_ofNat_of_zero_le (a := if pp < (n : Int) then pp else (n : Int)) (by split <;> omega)
                                have hn3n : n3 ≤ n := by split at hn3 <;> omega
                                have HTE : Aside0 (TT = strOfNums (sgn1 neg ++ (ds.take 1 ++ behind ds n3 ++ 101 :: expT x))) := ⟨by rw [HTT.out, HG.out, if_pos HEX.out, hn3, Int.toNat_natCast]⟩
                                have HN3 := Aside0.mk hn3
                                clear hn3
                                go_upto_if 112 with (fail)
                                go_cut [12] (fun v12 wx => v12 = .int .i64 (n3 : Int) ∧ w3 = wx)
                                case first => as_aux_lemma =>
                                  by_cases h1 : pp < (n : Int)
                                  · have HE : Aside0 (pp = (n3 : Int)) := ⟨by have := HN3.out; rwa [if_pos h1] at this⟩
                                    have h1d : decide (pp < (n : Int)) = true := decide_eq_true h1
                                    go_wp2_with (fail)
                                    go_meet
                                    case rel => exact ⟨by rw [HE.out], rfl⟩
                                  · have HE : Aside0 (n = n3) := ⟨by have := HN3.out; rw [if_neg h1] at this; omega⟩
                                    have h1d : decide (pp < (n : Int)) = false := decide_eq_false h1
                                    go_wp2_with (fail)
                                    go_meet
                                    case rel => exact ⟨by rw [HE.out], rfl⟩
                                case rest =>
                                  obtain ⟨rfl, rfl⟩ := hcut
                                  have hsn : (sgn1 neg).length ≤ 1 := by cases neg <;> simp [sgn1]
                                  have hdl : ds.length ≤ 9000 := by have := HN.out; omega
                                  have hbl : (behind ds n3).length ≤ 9001 := by unfold behind; split <;> simp <;> omega
                                  have htl : (ds.take 1).length ≤ 1 := by rw [List.length_take]; omega
                                  have hpl : (expT x).length ≤ 20 := by rw [expT_eq, List.length_cons]; have := expF_len9 x (by omega); omega
                                  obtain ⟨D1, hD1⟩ : ∃ D1, D1 = strOfNums (ds.take 1) := ⟨_, rfl⟩
                                  have hcut1 : S.extract 0 1 = D1 := by rw [HSD.out, hD1, str_ext]; rfl
                                  obtain ⟨O1, hO1⟩ : ∃ O, O = strOfNums (sgn1 neg ++ ds.take 1) := ⟨_, rfl⟩
                                  obtain ⟨O2, hO2⟩ : ∃ O, O = strOfNums (sgn1 neg ++ (ds.take 1 ++ behind ds n3)) := ⟨_, rfl⟩
                                  obtain ⟨O3, hO3⟩ : ∃ O, O = strOfNums (sgn1 neg ++ (ds.take 1 ++ behind ds n3) ++ [101]) := ⟨_, rfl⟩
                                  obtain ⟨PX, hPX⟩ : ∃ O, O = strOfNums (expT x) := ⟨_, rfl⟩
                                  have a1 : ∀ w, (Op.stringOp .add SG D1).run Tryz.prog w = .ok (.string O1) w := fun w => sadd1 (by rw [hO1, HSG.out, hD1, ← strOfNums_app]) (by rw [HSG.out, hD1, strOfNums_sz, strOfNums_sz]; omega) w
                                  have a4 : ∀ w, (Op.stringOp .add O2 ⟨#[101]⟩).run Tryz.prog w = .ok (.string O3) w := fun w => sadd1 (by rw [hO3, hO2, show (⟨#[101]⟩ : ByteArray) = strOfNums [101] from rfl, ← strOfNums_app]) (by rw [hO2, show (⟨#[101]⟩ : ByteArray) = strOfNums [101] from rfl, strOfNums_sz, strOfNums_sz, List.length_append, List.length_append]; simp only [List.length_cons, List.length_nil]; omega) w
                                  have a5 : ∀ w, (Op.stringOp .add O3 PX).run Tryz.prog w = .ok (.string TT) w := fun w => sadd1 (by rw [HTE.out, hO3, hPX, ← strOfNums_app]; simp only [List.append_assoc, List.singleton_append]) (by rw [hO3, hPX, strOfNums_sz, strOfNums_sz, List.length_append, List.length_append, List.length_append]; simp only [List.length_cons, List.length_nil]; omega) w
                                  have HPW : Aside0 (∀ W, Calls Tryz.prog 33 #[.int .i64 x] W fun e w' => e = .returned (.string PX) ∧ Below W.heap.size W w') := ⟨fun W => by rw [hPX]; exact power_c x (by omega) W⟩
                                  have hn1i : (1 : Int) ≤ (n : Int) := by omega
                                  have HO1 := Aside0.mk hO1
                                  have HO2 := Aside0.mk hO2
                                  have HBND : Aside0 ((sgn1 neg).length ≤ 1 ∧ (ds.take 1).length ≤ 1 ∧ ds.length ≤ 9000) := ⟨hsn, htl, hdl⟩
                                  clear hD1 hO1 hO2 hO3 hPX hsn hbl htl hpl hdl
                                  go_upto_if 119 with (fail)
                                  go_cut [14] (fun v14 wx => v14 = .string O2 ∧ w3 = wx)
                                  case first => as_aux_lemma =>
                                    by_cases h1 : 1 < n3
                                    · have h1d : decide ((1 : Int) < (n3 : Int)) = true := decide_eq_true (by omega)
                                      have h1i : (1 : Int) < (n3 : Int) := by omega
                                      have h1n : 1 ≤ n3 := by omega
                                      have h1ni : (1 : Int) ≤ (n3 : Int) := by omega
                                      have hn3i : (n3 : Int) ≤ (n : Int) := by omega
                                      obtain ⟨DB, hDB⟩ : ∃ O, O = strOfNums ((ds.drop 1).take (n3 - 1)) := ⟨_, rfl⟩
                                      have hcut2 : S.extract 1 n3 = DB := by rw [HSD.out, hDB, str_ext]
                                      obtain ⟨OD, hOD⟩ : ∃ O, O = strOfNums (sgn1 neg ++ ds.take 1 ++ [46]) := ⟨_, rfl⟩
                                      have hdb : ((ds.drop 1).take (n3 - 1)).length ≤ 9000 := by rw [List.length_take]; omega
                                      have a2 : ∀ w, (Op.stringOp .add O1 ⟨#[46]⟩).run Tryz.prog w = .ok (.string OD) w := fun w => sadd1 (by rw [hOD, HO1.out, show (⟨#[46]⟩ : ByteArray) = strOfNums [46] from rfl, ← strOfNums_app]) (by rw [HO1.out, show (⟨#[46]⟩ : ByteArray) = strOfNums [46] from rfl, strOfNums_sz, strOfNums_sz, List.length_append]; have := HBND.out; simp only [List.length_cons, List.length_nil]; omega) w
                                      have a3 : ∀ w, (Op.stringOp .add OD DB).run Tryz.prog w = .ok (.string O2) w := fun w => sadd1 (by rw [HO2.out, hOD, hDB, ← strOfNums_app]; unfold behind; rw [if_pos h1]; simp only [List.append_assoc, List.singleton_append]) (by rw [hOD, hDB, strOfNums_sz, strOfNums_sz, List.length_append, List.length_append]; have := HBND.out; simp only [List.length_cons, List.length_nil]; omega) w
                                      clear hDB hOD hdb
                                      go_wp2_with (fail)
                                      go_meet
                                      case rel => exact ⟨rfl, rfl⟩
                                    · have h1d : decide ((1 : Int) < (n3 : Int)) = false := decide_eq_false (by omega)
                                      have h1i : ¬ (1 : Int) < (n3 : Int) := by omega
                                      have HE : Aside0 (O1 = O2) := ⟨by rw [HO1.out, HO2.out]; unfold behind; rw [if_neg h1, List.append_nil]⟩
                                      go_wp2_with (fail)
                                      go_meet
                                      case rel => exact ⟨by rw [HE.out], rfl⟩
                                  case rest =>
                                    obtain ⟨rfl, rfl⟩ := hcut
                                    go_wp2_with (go_at_call 33; refine (HPW.out _).mono ?_; rintro e w6 ⟨rfl, hb6⟩; have HB6 := Aside0.mk (below_step HBW.out hb6); clear hb6)
                                    go_ret
                                    exact ⟨rfl, HB6.out⟩
                              | false =>
                                have hFX : ¬ (x < -4 ∨ eg ≤ x) := by have := HC2.out; exact of_decide_eq_false this.symm
                                have hx4 : -4 ≤ x := by omega
                                have hq9 : 0 ≤ qq ∧ qq ≤ 9000 := by have := HQQ.out; split at this <;> omega
                                obtain ⟨km, hkm⟩ := Int.eq_ofNat_of_zero_le (a := max x 0) (by omega)
                                obtain ⟨z, hz⟩ : ∃ z, qq - x - 1 = z := ⟨_, rfl⟩
                                obtain ⟨pl, hpl⟩ := Int.eq_ofNat_of_zero_le (a := max z 0) (by omega)
                                obtain ⟨f, hf⟩ : ∃ f : Nat → Int, f = fun i => if 0 ≤ x ∧ i < n then ds.getD i 0 else 48 := ⟨_, rfl⟩
                                obtain ⟨g, hg⟩ : ∃ g : Nat → Int, g = fun (i : Nat) => atI ds (x + 1 + (i : Int)) := ⟨_, rfl⟩
                                have HTF : Aside0 (TT = strOfNums (sgn1 neg ++ (List.range (km + 1)).map f ++ (if 0 < pl then [46] else []) ++ (List.range pl).map g)) := ⟨by
                                  rw [HTT.out, HG.out, if_neg hFX, hz, hpl, hkm, Int.toNat_natCast, Int.toNat_natCast, ← hf, ← hg]
                                  congr 1
                                  have e : (if (0 : Int) < (pl : Int) then [(46 : Int)] else []) = (if 0 < pl then [46] else []) := by split <;> split <;> (first | rfl | omega)
                                  rw [e]
                                  simp only [List.append_assoc]⟩
                                have hkm9 : km ≤ 2000 := by omega
                                have hpl9 : pl ≤ 9010 := by omega
                                have hkmx : (0 ≤ x ∧ (km : Int) = x) ∨ (x < 0 ∧ km = 0) := by omega
                                have hx1w : IntKind.i64.wrap (x + 1) = x + 1 := IntWalk.i64_in _ (by omega)
                                have hqxw : IntKind.i64.wrap (qq - x) = qq - x := IntWalk.i64_in _ (by omega)
                                have hzw : IntKind.i64.wrap z = z := IntWalk.i64_in _ (by omega)
                                have HF := Aside0.mk hf
                                have HGG := Aside0.mk hg
                                have HZ0 : Aside0 (strOfNums (sgn1 neg) = strOfNums (sgn1 neg ++ (List.range 0).map f)) := ⟨by simp⟩
                                have hsn : (sgn1 neg).length ≤ 1 := by cases neg <;> simp [sgn1]
                                have HSN := Aside0.mk hsn
                                clear hFX hf hg hsn HC2 HEG HE1
                                go_upto_if 134 with (fail)
                                go_cut [1] (fun v1 wx => v1 = .int .i64 qq ∧ w3 = wx)
                                case first => as_aux_lemma =>
                                  by_cases h1 : x + 1 < pp
                                  · have HE : Aside0 (qq = (n : Int)) := ⟨by rw [HQQ.out, if_pos h1]⟩
                                    have h1d : decide (x + 1 < pp) = true := decide_eq_true h1
                                    go_wp2_with (fail)
                                    go_meet
                                    case rel => exact ⟨by rw [HE.out], rfl⟩
                                  · have HE : Aside0 (qq = pp) := ⟨by rw [HQQ.out, if_neg h1]⟩
                                    have h1d : decide (x + 1 < pp) = false := decide_eq_false h1
                                    go_wp2_with (fail)
                                    go_meet
                                    case rel => exact ⟨by rw [HE.out], rfl⟩
                                case rest =>
                                  obtain ⟨rfl, rfl⟩ := hcut
                                  go_wp2_with (fail)
                                  go_loopg [16, 17] (km + 1) (fun k v16 v17 wr => ∃ (S6 : ByteArray) (i : Nat), v16 = .string S6 ∧ v17 = .int .i64 (i : Int) ∧ i + k = km + 1 ∧ Aside0 (S6 = strOfNums (sgn1 neg ++ (List.range i).map f)) ∧ w3 = wr)
                                  case atStart => exact ⟨SG, 0, rfl, rfl, by omega, ⟨by rw [HSG.out, HZ0.out]⟩, rfl⟩
                                  case round =>
                                    obtain ⟨S6, i, rfl, rfl, hi, HS6, rfl⟩ := hrel
                                    by_cases hg0 : gk = 0
                                    · subst hg0
                                      obtain rfl : i = km + 1 := by omega
                                      have hle : ¬ ((km + 1 : Nat) : Int) ≤ (km : Int) := by omega
                                      have hled : decide (((km + 1 : Nat) : Int) ≤ (km : Int)) = false := decide_eq_false hle
                                      obtain ⟨i9, hi9⟩ : ∃ i9, i9 = km + 1 := ⟨_, rfl⟩
                                      rw [← hi9] at hle hled HS6 ⊢
                                      obtain ⟨S7, hS7⟩ : ∃ S7, S7 = strOfNums (sgn1 neg ++ (List.range (km + 1)).map f ++ (if 0 < pl then [46] else [])) := ⟨_, rfl⟩
                                      have HS7 := Aside0.mk hS7
                                      have HI9 := Aside0.mk hi9
                                      clear hS7 hi9 hi
                                      go_upto_if 165 with (fail)
                                      go_cut [16] (fun v16 wx => v16 = .string S7 ∧ w3 = wx)
                                      case first => as_aux_lemma =>
                                        by_cases h1 : 0 < pl
                                        · have h1d : decide ((0 : Int) < (pl : Int)) = true := decide_eq_true (by omega)
                                          have h1i : (0 : Int) < (pl : Int) := by omega
                                          have a2 : ∀ w, (Op.stringOp .add S6 ⟨#[46]⟩).run Tryz.prog w = .ok (.string S7) w := fun w => sadd1 (by rw [HS7.out, HS6.out, HI9.out, show (⟨#[46]⟩ : ByteArray) = strOfNums [46] from rfl, ← strOfNums_app, if_pos h1]) (by rw [HS6.out, HI9.out, show (⟨#[46]⟩ : ByteArray) = strOfNums [46] from rfl, strOfNums_sz, strOfNums_sz, List.length_append, List.length_map, List.length_range]; have := HSN.out; simp only [List.length_cons, List.length_nil]; omega) w
                                          go_wp2_with (fail)
                                          go_meet
                                          case rel => exact ⟨rfl, rfl⟩
                                        · have h1d : decide ((0 : Int) < (pl : Int)) = false := decide_eq_false (by omega)
                                          have h1i : ¬ (0 : Int) < (pl : Int) := by omega
                                          have HE : Aside0 (S6 = S7) := ⟨by rw [HS7.out, HS6.out, HI9.out, if_neg h1, List.append_nil]⟩
                                          go_wp2_with (fail)
                                          go_meet
                                          case rel => exact ⟨by rw [HE.out], rfl⟩
                                      case rest =>
                                        obtain ⟨rfl, rfl⟩ := hcut
                                        clear HS6 hle hled HI9
                                        have HS70 : Aside0 (S7 = strOfNums (sgn1 neg ++ (List.range (km + 1)).map f ++ (if 0 < pl then [46] else []) ++ (List.range 0).map g)) := ⟨by rw [HS7.out]; simp⟩
                                        go_wp2_with (fail)
                                        go_loopg [16, 169] pl (fun k v16 v169 wr => ∃ (S8 : ByteArray) (i : Nat), v16 = .string S8 ∧ v169 = .int .i64 (i : Int) ∧ i + k = pl ∧ Aside0 (S8 = strOfNums (sgn1 neg ++ (List.range (km + 1)).map f ++ (if 0 < pl then [46] else []) ++ (List.range i).map g)) ∧ w3 = wr)
                                        case atStart => exact ⟨S7, 0, rfl, rfl, by omega, HS70, rfl⟩
                                        case round =>
                                          obtain ⟨S8, i, rfl, rfl, hi, HS8, rfl⟩ := hrel
                                          by_cases hg0 : gk = 0
                                          · subst hg0
                                            obtain rfl : pl = i := by omega
                                            have HTS : Aside0 (TT = S8) := ⟨by rw [HTF.out, HS8.out]⟩
                                            clear hi
                                            go_wp2_with (fail)
                                            go_ret
                                            exact ⟨by rw [HTS.out]; rfl, HBW.out⟩
                                          · obtain ⟨q, hq⟩ : ∃ q, q = gk - 1 := ⟨_, rfl⟩
                                            obtain ⟨i1, hi1⟩ : ∃ i1, i1 = i + 1 := ⟨_, rfl⟩
                                            obtain ⟨t, ht⟩ : ∃ t, x + 1 + (i : Int) = t := ⟨_, rfl⟩
                                            have htw : IntKind.i64.wrap t = t := IntWalk.i64_in _ (by omega)
                                            have hip : i < pl := by omega
                                            have hipi : (i : Int) < (pl : Int) := by omega
                                            have hi1i : (i : Int) + 1 = (i1 : Int) := by omega
                                            have hi1w : IntKind.i64.wrap (i1 : Int) = (i1 : Int) := IntWalk.i64_in _ (by omega)
                                            have hqg : q < gk := by omega
                                            have hjq : i1 + q = pl := by omega
                                            have HLEN : Aside0 ((sgn1 neg ++ (List.range (km + 1)).map f ++ (if 0 < pl then [46] else []) ++ (List.range i).map g).length ≤ 20000) := ⟨by
                                              have h1 := HSN.out
                                              have h2 : (if 0 < pl then [(46 : Int)] else []).length ≤ 1 := by split <;> simp
                                              rw [List.length_append, List.length_append, List.length_append, List.length_map, List.length_range, List.length_map, List.length_range]
                                              omega⟩
                                            obtain ⟨S9, hS9⟩ : ∃ S9, S9 = strOfNums (sgn1 neg ++ (List.range (km + 1)).map f ++ (if 0 < pl then [46] else []) ++ (List.range i1).map g) := ⟨_, rfl⟩
                                            have HM : Aside0 (S9 = S8 ++ strOfNums [g i]) := ⟨by rw [hS9, HS8.out, hi1, map_snoc g i, ← strOfNums_app]; simp only [List.append_assoc]⟩
                                            have HS9 := Aside0.mk hS9
                                            have HGI : Aside0 (g i = atI ds t) := ⟨by rw [HGG.out, ← ht]⟩
                                            clear hS9 hi1 hq hi
                                            by_cases h0 : 0 ≤ t ∧ t < (n : Int)
                                            · obtain ⟨j, rfl⟩ := Int.eq_ofNat_of_zero_le h0.1
                                              have hjn : j < n := by omega
                                              have hjni : (j : Int) < (n : Int) := h0.2
                                              have hj0 : decide ((0 : Int) ≤ (j : Int)) = true := decide_eq_true h0.1
                                              have hjd : decide ((j : Int) < (n : Int)) = true := decide_eq_true h0.2
                                              obtain ⟨j1, hj1⟩ : ∃ j1, j1 = j + 1 := ⟨_, rfl⟩
                                              obtain ⟨Y1, hY1⟩ : ∃ Y1, Y1 = strOfNums [ds.getD j 0] := ⟨_, rfl⟩
                                              have hcut : S.extract j j1 = Y1 := by rw [HSD.out, hj1, str_one ds j (by rw [← HN.out]; exact hjn), hY1]
                                              have hj1i : (j : Int) + 1 = (j1 : Int) := by omega
                                              have hj1w : IntKind.i64.wrap (j1 : Int) = (j1 : Int) := IntWalk.i64_in _ (by omega)
                                              have hjj : j ≤ j1 := by omega
                                              have hj1n : j1 ≤ n := by omega
                                              have hadd : ∀ w, (Op.stringOp .add S8 Y1).run Tryz.prog w = .ok (.string S9) w := fun w => sadd1 (by
                                                rw [HM.out, HGI.out, hY1]
                                                unfold atI
                                                rw [if_pos h0.1, Int.toNat_natCast]
                                                congr 2
                                                rw [List.getD_eq_getElem?_getD, List.getD_eq_getElem?_getD, List.getElem?_eq_getElem (show j < ds.length by rw [← HN.out]; exact hjn)]
                                                rfl) (by rw [HS8.out, hY1, strOfNums_sz, strOfNums_sz]; have := HLEN.out; simp only [List.length_cons, List.length_nil]; omega) w
                                              clear hj1 hY1 h0
                                              go_wp2_with (fail)
                                              go_roundg q
                                              case measure => exact hqg
                                              case rel => exact ⟨S9, i1, by first | rfl | simp, by first | rfl | simp, hjq, HS9, rfl⟩
                                            · have hadd : ∀ w, (Op.stringOp .add S8 ⟨#[48]⟩).run Tryz.prog w = .ok (.string S9) w := fun w => sadd1 (by
                                                rw [HM.out, HGI.out, show (⟨#[48]⟩ : ByteArray) = strOfNums [48] from rfl]
                                                unfold atI
                                                by_cases ht0 : 0 ≤ t
                                                · rw [if_pos ht0]
                                                  congr 2
                                                  rw [List.getD_eq_getElem?_getD, List.getElem?_eq_none (by have := HN.out; omega)]
                                                  rfl
                                                · rw [if_neg ht0]) (by rw [HS8.out, show (⟨#[48]⟩ : ByteArray) = strOfNums [48] from rfl, strOfNums_sz, strOfNums_sz]; have := HLEN.out; simp only [List.length_cons, List.length_nil]; omega) w
                                              by_cases ht0 : 0 ≤ t
                                              · have ht0d : decide ((0 : Int) ≤ t) = true := decide_eq_true ht0
                                                have htn : ¬ t < (n : Int) := fun h => h0 ⟨ht0, h⟩
                                                have htnd : decide (t < (n : Int)) = false := decide_eq_false htn
                                                clear h0
                                                go_wp2_with (fail)
                                                go_roundg q
                                                case measure => exact hqg
                                                case rel => exact ⟨S9, i1, by first | rfl | simp, by first | rfl | simp, hjq, HS9, rfl⟩
                                              · have ht0d : decide ((0 : Int) ≤ t) = false := decide_eq_false ht0
                                                clear h0
                                                go_wp2_with (fail)
                                                go_roundg q
                                                case measure => exact hqg
                                                case rel => exact ⟨S9, i1, by first | rfl | simp, by first | rfl | simp, hjq, HS9, rfl⟩
                                    · obtain ⟨q, hq⟩ : ∃ q, q = gk - 1 := ⟨_, rfl⟩
                                      obtain ⟨i1, hi1⟩ : ∃ i1, i1 = i + 1 := ⟨_, rfl⟩
                                      have hik : (i : Int) ≤ (km : Int) := by omega
                                      have hikd : decide ((i : Int) ≤ (km : Int)) = true := decide_eq_true hik
                                      have hi1i : (i : Int) + 1 = (i1 : Int) := by omega
                                      have hi1w : IntKind.i64.wrap (i1 : Int) = (i1 : Int) := IntWalk.i64_in _ (by omega)
                                      have hqg : q < gk := by omega
                                      have hjq : i1 + q = km + 1 := by omega
                                      have HLEN : Aside0 ((sgn1 neg ++ (List.range i).map f).length ≤ 20000) := ⟨by
                                        have h1 := HSN.out
                                        rw [List.length_append, List.length_map, List.length_range]
                                        omega⟩
                                      obtain ⟨S9, hS9⟩ : ∃ S9, S9 = strOfNums (sgn1 neg ++ (List.range i1).map f) := ⟨_, rfl⟩
                                      have HM : Aside0 (S9 = S6 ++ strOfNums [f i]) := ⟨by rw [hS9, HS6.out, hi1, map_snoc f i, ← strOfNums_app]; simp only [List.append_assoc]⟩
                                      have HFI : Aside0 (f i = if 0 ≤ x ∧ i < n then ds.getD i 0 else 48) := ⟨by rw [HF.out]⟩
                                      have HS9 := Aside0.mk hS9
                                      have hi9 : i ≤ 2000 := by omega
                                      clear hS9 hq hi
                                      by_cases h0 : 0 ≤ x ∧ i < n
                                      · have hx0 : 0 ≤ x := h0.1
                                        have hin : i < n := h0.2
                                        have hini : (i : Int) < (n : Int) := by omega
                                        have hx0d : decide ((0 : Int) ≤ x) = true := decide_eq_true h0.1
                                        have hind : decide ((i : Int) < (n : Int)) = true := decide_eq_true hini
                                        obtain ⟨Y1, hY1⟩ : ∃ Y1, Y1 = strOfNums [ds.getD i 0] := ⟨_, rfl⟩
                                        have hcut : S.extract i i1 = Y1 := by rw [HSD.out, hi1, str_one ds i (by rw [← HN.out]; exact hin), hY1]
                                        have hjj : i ≤ i1 := by omega
                                        have hj1n : i1 ≤ n := by omega
                                        have hadd : ∀ w, (Op.stringOp .add S6 Y1).run Tryz.prog w = .ok (.string S9) w := fun w => sadd1 (by rw [HM.out, HFI.out, hY1, if_pos ⟨hx0, hin⟩]) (by rw [HS6.out, hY1, strOfNums_sz, strOfNums_sz]; have := HLEN.out; simp only [List.length_cons, List.length_nil]; omega) w
                                        clear hi1 hY1 h0
                                        go_wp2_with (fail)
                                        go_roundg q
                                        case measure => exact hqg
                                        case rel => exact ⟨S9, i1, by first | rfl | simp, by first | rfl | simp, hjq, HS9, rfl⟩
                                      · have hadd : ∀ w, (Op.stringOp .add S6 ⟨#[48]⟩).run Tryz.prog w = .ok (.string S9) w := fun w => sadd1 (by rw [HM.out, HFI.out, show (⟨#[48]⟩ : ByteArray) = strOfNums [48] from rfl, if_neg h0]) (by rw [HS6.out, show (⟨#[48]⟩ : ByteArray) = strOfNums [48] from rfl, strOfNums_sz, strOfNums_sz]; have := HLEN.out; simp only [List.length_cons, List.length_nil]; omega) w
                                        clear hi1
                                        by_cases hx0 : 0 ≤ x
                                        · have hx0d : decide ((0 : Int) ≤ x) = true := decide_eq_true hx0
                                          have hin : ¬ (i : Int) < (n : Int) := fun h => h0 ⟨hx0, by omega⟩
                                          have hind : decide ((i : Int) < (n : Int)) = false := decide_eq_false hin
                                          clear h0
                                          go_wp2_with (fail)
                                          go_roundg q
                                          case measure => exact hqg
                                          case rel => exact ⟨S9, i1, by first | rfl | simp, by first | rfl | simp, hjq, HS9, rfl⟩
                                        · have hx0d : decide ((0 : Int) ≤ x) = false := decide_eq_false hx0
                                          clear h0
                                          go_wp2_with (fail)
                                          go_roundg q
                                          case measure => exact hqg
                                          case rel => exact ⟨S9, i1, by first | rfl | simp, by first | rfl | simp, hjq, HS9, rfl⟩
          · obtain ⟨q, hq⟩ : ∃ q, q = gk - 1 := ⟨_, rfl⟩
            obtain ⟨y, hy⟩ : ∃ y, y = e.getD j 0 := ⟨_, rfl⟩
            obtain ⟨z, hz⟩ : ∃ z, y - 48 = z := ⟨_, rfl⟩
            obtain ⟨T, hT⟩ : ∃ T, 10 * K = T := ⟨_, rfl⟩
            obtain ⟨K2, hK2⟩ : ∃ K2, T + z = K2 := ⟨_, rfl⟩
            obtain ⟨i1, hi1⟩ : ∃ i1, i1 = i + 1 := ⟨_, rfl⟩
            have hjn : j < ne := by omega
            have hyr : 48 ≤ y ∧ y ≤ 57 := by rw [hy]; exact HED.out _ (getD_memI (by have := HNE.out; omega))
            have hiL : i < nL := by have := HI.out; have := HNL.out; omega
            have hiLi : (i : Int) < (nL : Int) := by omega
            have hi := HIX.out i y hiL (by rw [HI.out, HLX.out, hy]) (by omega) (by omega)
            have hw2 : IntKind.u8.wrap z = z := by rw [IntKind.wrap_u8']; omega
            have hw3 : IntKind.i64.wrap z = z := IntWalk.i64_in _ (by omega)
            have hw1 : IntKind.i64.wrap T = T := IntWalk.i64_in _ (by omega)
            have hw4 : IntKind.i64.wrap K2 = K2 := IntWalk.i64_in _ (by omega)
            have hi1i : (i : Int) + 1 = (i1 : Int) := by omega
            have hi1w : IntKind.i64.wrap (i1 : Int) = (i1 : Int) := IntWalk.i64_in _ (by omega)
            have hqg : q < gk := by omega
            have HI1 : Aside0 (i1 = n2 + (j + 1)) := ⟨by have := HI.out; omega⟩
            have HK1 : Aside0 (K2 = dval (e.take (j + 1))) := ⟨by rw [dval_take e j (by have := HNE.out; omega), ← HK.out, ← hy]; omega⟩
            have hjq : j + 1 + q = ne := by omega
            clear hq hy hyr hkb hi1 hj
            go_wp2_with (fail)
            go_roundg q
            case measure => exact hqg
            case rel => exact ⟨K2, j + 1, i1, by first | rfl | simp, by first | rfl | simp, hjq, HI1, HK1, rfl⟩
      · obtain ⟨q, hq⟩ : ∃ q, q = gk - 1 := ⟨_, rfl⟩
        obtain ⟨j1, hj1⟩ : ∃ j1, j1 = j + 1 := ⟨_, rfl⟩
        obtain ⟨y, hy⟩ : ∃ y, y = a.getD j 0 := ⟨_, rfl⟩
        have hjn : j < na := by omega
        have hyr : y = 46 ∨ (48 ≤ y ∧ y ≤ 57) := by rw [hy]; exact HA.out _ (getD_memI (by have := HNA.out; omega))
        have hjL : j < nL := by omega
        have hjLi : (j : Int) < (nL : Int) := by omega
        have hi := HIX.out j y hjL (by rw [hy]; exact HLA.out j hjn) (by omega) (by omega)
        have hy101 : (y == 101) = false := by rw [beq_eq_false_iff_ne]; omega
        have hj1i : (j : Int) + 1 = (j1 : Int) := by omega
        have hj1w : IntKind.i64.wrap (j1 : Int) = (j1 : Int) := IntWalk.i64_in _ (by omega)
        have hqg : q < gk := by omega
        have hjq : j1 + q = na := by omega
        have HFS : Aside0 ((a.take j1).filter (fun c => c != 46) = (a.take j).filter (fun c => c != 46) ++ (if (y != 46) = true then [y] else [])) := ⟨by
          rw [hj1, hy]
          exact filter_snoc (fun c => c != 46) a j (by have := HNA.out; omega)⟩
        by_cases h46 : y = 46
        · subst h46
          have HD1 : Aside0 (D = strOfNums ((a.take j1).filter fun c => c != 46)) := ⟨by rw [HD.out, HFS.out]; simp⟩
          have HDZ1 : Aside0 (D.size ≤ j1) := ⟨by have := HDZ.out; omega⟩
          clear hq hj1 hy hyr hj
          go_wp2_with (fail)
          go_roundg q
          case measure => exact hqg
          case rel => exact ⟨D, j1, by first | rfl | simp, by first | rfl | simp, hjq, HD1, HDZ1, rfl⟩
        · have hy46 : (y == 46) = false := by rw [beq_eq_false_iff_ne]; exact h46
          obtain ⟨Y1, hY1⟩ : ∃ Y1, Y1 = strOfNums [y] := ⟨_, rfl⟩
          have hcut : SL.extract j j1 = Y1 := by
            rw [HSL.out, hj1, str_one L j (by rw [← str_size SL L HSL.out, hsz]; exact hjL), HLA.out j hjn, ← hy, hY1]
          obtain ⟨D2, hD2⟩ : ∃ D2, D2 = strOfNums ((a.take j1).filter fun c => c != 46) := ⟨_, rfl⟩
          have hadd : ∀ w, (Op.stringOp .add D Y1).run Tryz.prog w = .ok (.string D2) w := fun w => sadd1 (by rw [hD2, HFS.out, HD.out, hY1, ← strOfNums_app]; simp [h46]) (by rw [hY1, strOfNums_sz]; have := HDZ.out; have := HB9.out; simp only [List.length_cons, List.length_nil]; omega) w
          have HD1 := Aside0.mk hD2
          have HDZ1 : Aside0 (D2.size ≤ j1) := ⟨by
            rw [hD2, strOfNums_sz]
            refine Nat.le_trans (List.length_filter_le _ _) ?_
            rw [List.length_take]
            omega⟩
          have hjj : j ≤ j1 := by omega
          have hj1L : j1 ≤ nL := by omega
          clear hq hj1 hy hyr hj hY1 hD2
          go_wp2_with (fail)
          go_roundg q
          case measure => exact hqg
          case rel => exact ⟨D2, j1, by first | rfl | simp, by first | rfl | simp, hjq, HD1, HDZ1, rfl⟩
end Go.Proofs.YtfnknldbjckgoaaGreatDoor.Sp
