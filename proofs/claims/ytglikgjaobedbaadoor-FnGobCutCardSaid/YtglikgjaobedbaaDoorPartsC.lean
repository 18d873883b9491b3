/-
  CONTRACTS of MantExp, SetMantExp, Copy at whatever form; 'same'.
-/
import Derived.Test.YtglikgjaobedbaaDoorGlaw
namespace Go.Proofs.YtglikgjaobedbaaDoor.Sp
open Go.RowKit Go.Proofs.YtglikgjaobedbaaDoorW.PrintWords Go.Proofs.YtglikgjaobedbaaDoorW.PrintLast Go.Proofs.YtglikgjaobedbaaDoorW.PrintMore Go.Proofs.YtglikgjaobedbaaDoor.Dig
set_option linter.unusedVariables false
set_option linter.unusedSimpArgs false
/-! ### Copy, MantExp, SetMantExp of a nought or an infinity -/
set_option maxHeartbeats 3200000 in
set_option maxRecDepth 100000 in
theorem copy_spc (g gx p : Nat) (m f : Int) (neg : Bool) (a0 a1 a2 a3 : Int) (a4 : Bool) (V : Value) (a6 : Int) (w : World) (hz : hp w g = some (.cells #[.int .u32 a0, .int .u8 a1, .int .i8 a2, .int .u8 a3, .bool a4, V, .int .i32 a6] 91 (0, 0))) (h : Spc w gx p m f neg) (hne : g ≠ gx) (hf : f = 0 ∨ f = 2) :
    Calls Tryd.prog 54 #[.pointer (some ⟨g, 0, none⟩), .pointer (some ⟨gx, 0, none⟩)] w fun e w' => e = .returned (.pointer (some ⟨g, 0, none⟩)) ∧ hp w' g = some (.cells #[.int .u32 p, .int .u8 m, .int .i8 0, .int .u8 f, .bool neg, V, .int .i32 a6] 91 (0, 0)) ∧ Kept (On g) w w' := by
  have hq := neq_other 62 91 Tryd.underlying62 infoFloat (by decide) (a := ⟨g, 0, none⟩) (b := ⟨gx, 0, none⟩) (w := w) (by simp [hne]) hz h.blk
  obtain ⟨z0, z1, z2, z3, z4, z5, z6, e0, e1, e2, e3, e4, e5, e6⟩ := blk7 hz
  obtain ⟨c0, c1, c2, c3, c4, c5, c6, f0, f1, f2, f3, f4, f5, f6⟩ := blk7 h.blk
  have hf1 : (f == 1) = false := by rw [beq_eq_false_iff_ne]; omega
  have lg := hp_lt hz
  have lx := hp_lt h.blk
  have hne' : gx ≠ g := fun e => hne e.symm
  have HZ := Aside0.mk hz
  clear h hz
  go_enter Tryd.func54, Tryd.ntmps54
  go_wp2_with (fail)
  go_ret
  refine ⟨rfl, ?_, ?_⟩
  · rw [hp_here _ _ _ _ _ rfl, hp_here _ _ _ _ _ rfl, hp_here _ _ _ _ _ rfl, hp_here _ _ _ _ _ rfl, hp_here _ _ _ _ _ rfl, HZ.out]; rfl
  · exact (((((Kept.refl (On g) w).setCell (p := ⟨g, 0, none⟩) (.inl rfl) _).setCell (p := ⟨g, 1, none⟩) (.inl rfl) _).setCell (p := ⟨g, 2, none⟩) (.inl rfl) _).setCell (p := ⟨g, 3, none⟩) (.inl rfl) _).setCell (p := ⟨g, 4, none⟩) (.inl rfl) _
set_option maxHeartbeats 3200000 in
set_option maxRecDepth 100000 in
theorem mant_spc (g gx p : Nat) (m f : Int) (neg : Bool) (w : World) (hz : hp w g = some (.cells #[.int .u32 0, .int .u8 0, .int .i8 0, .int .u8 0, .bool false, .slice none 0 0, .int .i32 0] 91 (0, 0))) (h : Spc w gx p m f neg) (hne : g ≠ gx) (hf : f = 0 ∨ f = 2) :
    Calls Tryd.prog 51 #[.pointer (some ⟨gx, 0, none⟩), .pointer (some ⟨g, 0, none⟩)] w fun e w' => e = .returned (.int .i64 0) ∧ Spc w' g p m f neg ∧ Kept (On g) w w' := by
  have HCP := Aside0.mk (copy_spc g gx p m f neg 0 0 0 0 false _ 0 w hz h hne hf)
  have hf1 : (f == 1) = false := by rw [beq_eq_false_iff_ne]; omega
  obtain ⟨c0, c1, c2, c3, c4, c5, c6, f0, f1, f2, f3, f4, f5, f6⟩ := blk7 h.blk
  clear hz h
  go_enter Tryd.func51, Tryd.ntmps51
  go_wp2_with (fail)
  refine (HCP.out).mono ?_
  rintro e w1 ⟨rfl, hs, hk⟩
  have HS := Aside0.mk hs
  have HK := Aside0.mk hk
  clear c0 c1 c2 c3 c4 c5 c6 f0 f1 f2 f3 f4 f5 f6
  obtain ⟨c0, c1, c2, c3, c4, c5, c6, f0, f1, f2, f3, f4, f5, f6⟩ := blk7 hs
  clear hs hk HCP
  go_wp2_with (fail)
  go_ret
  exact ⟨rfl, HS.out, HK.out⟩
set_option maxHeartbeats 3200000 in
set_option maxRecDepth 100000 in
theorem mant_spc_self (g p : Nat) (m f : Int) (neg : Bool) (w : World) (h : Spc w g p m f neg) (hf : f = 0 ∨ f = 2) :
    Calls Tryd.prog 51 #[.pointer (some ⟨g, 0, none⟩), .pointer (some ⟨g, 0, none⟩)] w fun e w' => e = .returned (.int .i64 0) ∧ w = w' := by
  have HCP := Aside0.mk (copy_self g w)
  have hf1 : (f == 1) = false := by rw [beq_eq_false_iff_ne]; omega
  obtain ⟨c0, c1, c2, c3, c4, c5, c6, f0, f1, f2, f3, f4, f5, f6⟩ := blk7 h.blk
  clear h
  go_enter Tryd.func51, Tryd.ntmps51
  go_wp2_with (go_at_call 54; refine (HCP.out).mono ?_; rintro e w' ⟨rfl, rfl⟩)
  go_ret
  exact ⟨rfl, rfl⟩
set_option maxHeartbeats 3200000 in
set_option maxRecDepth 100000 in
theorem mant_spc_nil (g p : Nat) (m f : Int) (neg : Bool) (w : World) (h : Spc w g p m f neg) (hf : f = 0 ∨ f = 2) :
    Calls Tryd.prog 51 #[.pointer (some ⟨g, 0, none⟩), .pointer none] w fun e w' => e = .returned (.int .i64 0) ∧ w = w' := by
  have hf1 : (f == 1) = false := by rw [beq_eq_false_iff_ne]; omega
  have hq : ∀ w, (binOp .neq 62 (.pointer none) (.pointer none)).run Tryd.prog w = .ok (.bool false) w := fun w => run_neq_pointer_nil w 62 none (by kernel_rfl)
  obtain ⟨c0, c1, c2, c3, c4, c5, c6, f0, f1, f2, f3, f4, f5, f6⟩ := blk7 h.blk
  clear h
  go_enter Tryd.func51, Tryd.ntmps51
  go_wp2_with (fail)
  go_ret
  exact ⟨rfl, rfl⟩
set_option maxHeartbeats 3200000 in
set_option maxRecDepth 100000 in
theorem sme_spc (g gx p : Nat) (m f x : Int) (neg : Bool) (w : World) (hz : hp w g = some (.cells #[.int .u32 0, .int .u8 0, .int .i8 0, .int .u8 0, .bool false, .slice none 0 0, .int .i32 0] 91 (0, 0))) (h : Spc w gx p m f neg) (hne : g ≠ gx) (hf : f = 0 ∨ f = 2) :
    Calls Tryd.prog 52 #[.pointer (some ⟨g, 0, none⟩), .pointer (some ⟨gx, 0, none⟩), .int .i64 x] w fun e w' => e = .returned (.pointer (some ⟨g, 0, none⟩)) ∧ Spc w' g p m f neg ∧ Kept (On g) w w' := by
  have HCP := Aside0.mk (copy_spc g gx p m f neg 0 0 0 0 false _ 0 w hz h hne hf)
  have hf1 : (f == 1) = false := by rw [beq_eq_false_iff_ne]; omega
  clear hz h
  go_enter Tryd.func52, Tryd.ntmps52
  go_wp2_with (fail)
  refine (HCP.out).mono ?_
  rintro e w1 ⟨rfl, hs, hk⟩
  have HS := Aside0.mk hs
  have HK := Aside0.mk hk
  obtain ⟨c0, c1, c2, c3, c4, c5, c6, f0, f1, f2, f3, f4, f5, f6⟩ := blk7 hs
  clear hs hk HCP
  go_wp2_with (fail)
  go_ret
  exact ⟨rfl, HS.out, HK.out⟩
set_option maxHeartbeats 3200000 in
set_option maxRecDepth 100000 in
theorem sme_spc_self (g p : Nat) (m f x : Int) (neg : Bool) (w : World) (h : Spc w g p m f neg) (hf : f = 0 ∨ f = 2) :
    Calls Tryd.prog 52 #[.pointer (some ⟨g, 0, none⟩), .pointer (some ⟨g, 0, none⟩), .int .i64 x] w fun e w' => e = .returned (.pointer (some ⟨g, 0, none⟩)) ∧ w = w' := by
  have HCP := Aside0.mk (copy_self g w)
  have hf1 : (f == 1) = false := by rw [beq_eq_false_iff_ne]; omega
  obtain ⟨c0, c1, c2, c3, c4, c5, c6, f0, f1, f2, f3, f4, f5, f6⟩ := blk7 h.blk
  clear h
  go_enter Tryd.func52, Tryd.ntmps52
  go_wp2_with (go_at_call 54; refine (HCP.out).mono ?_; rintro e w' ⟨rfl, rfl⟩)
  go_ret
  exact ⟨rfl, rfl⟩
/-! ### whatever form -/
/-- What 'MantExp' tells. -/
def me (f : Int) (b : Nat) (x : Int) : Int := if f = 1 then b + x else 0
theorem mant_fl {w0 w : World} {gx p : Nat} {m f : Int} {neg : Bool} {v x : Int} {b n : Nat} (g : Nat) (h : Fl w0 w gx p m f neg v x b n) (hz : hp w g = some (.cells #[.int .u32 0, .int .u8 0, .int .i8 0, .int .u8 0, .bool false, .slice none 0 0, .int .i32 0] 91 (0, 0))) (hg : w0.heap.size ≤ g) (hne : g ≠ gx) (hs : w0.heap.size ≤ w.heap.size) (hp1 : 1 ≤ p ∧ p ≤ 600000) (hx : f = 1 → -900000000 ≤ (b : Int) + x ∧ (b : Int) + x ≤ 900000000) :
    Calls Tryd.prog 51 #[.pointer (some ⟨gx, 0, none⟩), .pointer (some ⟨g, 0, none⟩)] w fun e w' => e = .returned (.int .i64 (me f b x)) ∧ Fl w0 w' g p m f neg v (-(b : Int)) b n ∧ Below w0.heap.size w w' := by
  rcases h with ⟨rfl, ⟨mb, L, R, c, h1, h2, h3, h4, h5, h6, h7, h8⟩, h9⟩ | ⟨h1, h2, h3⟩
  · have hlen := h5.len
    have hb := hx rfl
    refine (mant_c g gx mb p (fun _ => False) m 0 neg c _ L R w (FltD.new hz) h4 hne h5.pos (by omega) (fun h => h) (fun h => h) (by omega)).mono ?_
    rintro e w' ⟨rfl, hk, mb2, R2, c2, hmb, hlen2, hF⟩
    refine ⟨rfl, .inl ⟨rfl, ⟨mb2, L, R2, c2, hg, ?_, hlen2, ?_, h5, h6, h7, h8⟩, h9⟩, ?_⟩
    · rcases hmb with h | h
      · exact h.elim
      · omega
    · rw [show (b : Int) + -(b : Int) = 0 by omega]
      exact hF
    · exact hk.below (B := w0.heap.size) (by rintro i (h | h); omega; exact h.elim) hs
  · refine (mant_spc g gx p m f neg w hz h3 hne h1).mono ?_
    rintro e w' ⟨rfl, hS, hk⟩
    exact ⟨by rw [me, if_neg (by omega)], .inr ⟨h1, hg, hS⟩, hk.below (B := w0.heap.size) (by intro i h; have : i = g := h; omega) hs⟩
theorem mant_fl_self {w0 w : World} {gx p : Nat} {m f : Int} {neg : Bool} {v x : Int} {b n : Nat} (h : Fl w0 w gx p m f neg v x b n) (hs : w0.heap.size ≤ w.heap.size) (hx : f = 1 → -900000000 ≤ (b : Int) + x ∧ (b : Int) + x ≤ 900000000) :
    Calls Tryd.prog 51 #[.pointer (some ⟨gx, 0, none⟩), .pointer (some ⟨gx, 0, none⟩)] w fun e w' => e = .returned (.int .i64 (me f b x)) ∧ Fl w0 w' gx p m f neg v (-(b : Int)) b n ∧ Below w0.heap.size w w' := by
  rcases h with ⟨rfl, ⟨mb, L, R, c, h1, h2, h3, h4, h5, h6, h7, h8⟩, h9⟩ | ⟨h1, h2, h3⟩
  · have hb := hx rfl
    refine (mant_self gx mb p m 0 neg c _ L R w h4 (by omega)).mono ?_
    rintro e w' ⟨rfl, hk, hF⟩
    refine ⟨rfl, .inl ⟨rfl, ⟨mb, L, R, c, h1, h2, h3, ?_, h5, h6, h7, h8⟩, h9⟩, ?_⟩
    · rw [show (b : Int) + -(b : Int) = 0 by omega]
      exact hF
    · exact hk.below (B := w0.heap.size) (by intro i h; have : i = gx := h; omega) hs
  · refine (mant_spc_self gx p m f neg w h3 h1).mono ?_
    rintro e w' ⟨rfl, rfl⟩
    exact ⟨by rw [me, if_neg (by omega)], .inr ⟨h1, h2, h3⟩, (Below.refl _ _).mono hs⟩
theorem mant_fl_nil {w0 w : World} {gx p : Nat} {m f : Int} {neg : Bool} {v x : Int} {b n : Nat} (h : Fl w0 w gx p m f neg v x b n) (hx : f = 1 → -900000000 ≤ (b : Int) + x ∧ (b : Int) + x ≤ 900000000) :
    Calls Tryd.prog 51 #[.pointer (some ⟨gx, 0, none⟩), .pointer none] w fun e w' => e = .returned (.int .i64 (me f b x)) ∧ w = w' := by
  rcases h with ⟨rfl, ⟨mb, L, R, c, h1, h2, h3, h4, h5, h6, h7, h8⟩, h9⟩ | ⟨h1, h2, h3⟩
  · have hb := hx rfl
    rw [show me 1 b x = (b : Int) + x from if_pos rfl]
    exact mant_nil gx mb p m 0 neg _ c _ _ w h4 (by omega)
  · refine (mant_spc_nil gx p m f neg w h3 h1).mono ?_
    rintro e w' ⟨rfl, rfl⟩
    exact ⟨by rw [me, if_neg (by omega)], rfl⟩
theorem sme_fl {w0 w : World} {gx p : Nat} {m f : Int} {neg : Bool} {v x : Int} {b n : Nat} (g : Nat) (y : Int) (h : Fl w0 w gx p m f neg v x b n) (hz : hp w g = some (.cells #[.int .u32 0, .int .u8 0, .int .i8 0, .int .u8 0, .bool false, .slice none 0 0, .int .i32 0] 91 (0, 0))) (hg : w0.heap.size ≤ g) (hne : g ≠ gx) (hs : w0.heap.size ≤ w.heap.size) (hp1 : 1 ≤ p ∧ p ≤ 600000) (hm : 0 ≤ m ∧ m < 6) (hx : f = 1 → -900000000 ≤ (b : Int) + x ∧ (b : Int) + x ≤ 900000000) (hy : f = 1 → -900000000 ≤ y ∧ y ≤ 900000000) :
    Calls Tryd.prog 52 #[.pointer (some ⟨g, 0, none⟩), .pointer (some ⟨gx, 0, none⟩), .int .i64 y] w fun e w' => e = .returned (.pointer (some ⟨g, 0, none⟩)) ∧ Fl w0 w' g p m f neg v (x + y) b n ∧ Below w0.heap.size w w' := by
  rcases h with ⟨rfl, ⟨mb, L, R, c, h1, h2, h3, h4, h5, h6, h7, h8⟩, h9⟩ | ⟨h1, h2, h3⟩
  · have hlen := h5.len
    have hb := hx rfl
    have hy2 := hy rfl
    refine (sme_c g gx mb p (fun _ => False) m 0 neg c _ y L R w (FltD.new hz) h4 hne (by omega) (fun h => h) (fun h => h) h5 ⟨hp1.1, by omega⟩ hm (by omega) (by omega) (by omega)).mono ?_
    rintro e w' ⟨rfl, hk, mb2, R2, c2, hmb, hlen2, hF⟩
    refine ⟨rfl, .inl ⟨rfl, ⟨mb2, L, R2, c2, hg, ?_, hlen2, ?_, h5, h6, h7, h8⟩, h9⟩, ?_⟩
    · rcases hmb with h | h
      · exact h.elim
      · omega
    · rw [← Int.add_assoc]
      exact hF
    · exact hk.below (B := w0.heap.size) (by rintro i (h | h); omega; exact h.elim) hs
  · refine (sme_spc g gx p m f y neg w hz h3 hne h1).mono ?_
    rintro e w' ⟨rfl, hS, hk⟩
    exact ⟨rfl, .inr ⟨h1, hg, hS⟩, hk.below (B := w0.heap.size) (by intro i h; have : i = g := h; omega) hs⟩
theorem sme_fl_self {w0 w : World} {gx p : Nat} {m f : Int} {neg : Bool} {v x : Int} {b n : Nat} (y : Int) (h : Fl w0 w gx p m f neg v x b n) (hs : w0.heap.size ≤ w.heap.size) (hp1 : 1 ≤ p ∧ p ≤ 600000) (hm : 0 ≤ m ∧ m < 6) (hx : f = 1 → -900000000 ≤ (b : Int) + x ∧ (b : Int) + x ≤ 900000000) (hy : f = 1 → -900000000 ≤ y ∧ y ≤ 900000000) :
    Calls Tryd.prog 52 #[.pointer (some ⟨gx, 0, none⟩), .pointer (some ⟨gx, 0, none⟩), .int .i64 y] w fun e w' => e = .returned (.pointer (some ⟨gx, 0, none⟩)) ∧ Fl w0 w' gx p m f neg v (x + y) b n ∧ Below w0.heap.size w w' := by
  rcases h with ⟨rfl, ⟨mb, L, R, c, h1, h2, h3, h4, h5, h6, h7, h8⟩, h9⟩ | ⟨h1, h2, h3⟩
  · have hlen := h5.len
    have hb := hx rfl
    have hy2 := hy rfl
    refine (sme_self gx mb p m 0 neg c _ y L R w h4 (by omega) h5 ⟨hp1.1, by omega⟩ hm (by omega) (by omega) (by omega)).mono ?_
    rintro e w' ⟨rfl, hk, R2, hlen2, hF⟩
    refine ⟨rfl, .inl ⟨rfl, ⟨mb, L, R2, c, h1, h2, hlen2.trans h3, ?_, h5, h6, h7, h8⟩, h9⟩, ?_⟩
    · rw [← Int.add_assoc]
      exact hF
    · exact hk.below (B := w0.heap.size) (by rintro i (h | h) <;> omega) hs
  · refine (sme_spc_self gx p m f y neg w h3 h1).mono ?_
    rintro e w' ⟨rfl, rfl⟩
    exact ⟨rfl, .inr ⟨h1, h2, h3⟩, (Below.refl _ _).mono hs⟩
end Go.Proofs.YtglikgjaobedbaaDoor.Sp
