/-
  CONTRACT of impl.Text at a finite value in the formats e E f g G.
-/
import Derived.Test.YtfnknldbjckgoaaGreatDoorGapf
namespace Go.Proofs.YtfnknldbjckgoaaGreatDoor.Sp
open Go.RowKit Go.Proofs.YtfnknldbjckgoaaGreatDoorW.PrintWords Go.Proofs.YtfnknldbjckgoaaGreatDoorW.PrintLast Go.Proofs.YtfnknldbjckgoaaGreatDoorW.PrintMore Go.Proofs.YtfnknldbjckgoaaGreatDoor.Dig
set_option linter.unusedVariables false
theorem textK_c (P vN b : Nat) (m ch k : Int) (neg : Bool) (A : Option Addr) (c : Nat) (x : Int) (X : List Int) (W : World) (h : Ws W (.slice A X.length c) X) (hX : X.length ≤ 10000) (hv : ev BW X = (vN : Int)) (hv0 : 0 < vN) (hb : Bits (vN : Int) b) (hbp : b ≤ P) (hP : 1 ≤ P ∧ P ≤ 200) (hm : 0 ≤ m ∧ m < 6) (hx : -300 ≤ x ∧ x ≤ 300) (hk : -10 ≤ k ∧ k ≤ 1000) (hch : ch = 101 ∨ ch = 69 ∨ ch = 102 ∨ ch = 103 ∨ ch = 71) (hT : Pw W) (hL : Leaf W) (hTb : Tb W) :
    Calls Tryz.prog 14 #[.agg #[.int .u64 P, .int .i64 m, .int .i64 1, .bool neg, .slice A X.length c, .int .i64 x], .int .u8 ch, .int .i64 k] W fun e w' => e = .returned (.string (strOfNums (sgn1 neg ++ finT vN b P x ch k))) ∧ Below W.heap.size W w' := by
  refine textF_c P b m ch k neg A X.length c x (vN : Int) X _ W h hX hv (by omega) hb hbp (by omega) hm (by omega) (by omega) ?_
  intro w0 W0 W1 g vv hb0 hO hbu
  have := appK_c g P vN b m x k ch neg w0 W0 W1 vv [] hO hv0 hb hbp hP.2 hx hbu (by simp) (pw_below hT hb0) (hL.below hb0) (tb_below hTb hb0) hk hch
  rwa [List.nil_append] at this
end Go.Proofs.YtfnknldbjckgoaaGreatDoor.Sp
