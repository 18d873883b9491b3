/-
  DERIVED. GIVEN WITH THE SEED: THE PROGRAM's TIES (one call each: nine closed facts by the kernel) AND EACH ROW's TIE, after the 31st guide's Derived/Test/Toyas{Tie, Card}.lean. No idea stands in it: it is a product of the set-up. Laid BY PROGRAM, IN A SANDBOX (cutbox-door.mjs). By AI agents, Wed Nov 11 2026. No macro, syntax, notation, axiom, sorry.
-/
import Derived.Test.YtglikgjaobedbaaGreatDoorRows
import Derived.LaidByTextLater
import Derived.SevenTiedAt
import Derived.LaidSub
import Derived.LaidOnce
namespace Go.Proofs.YtglikgjaobedbaaGreatDoor
open Go
set_option maxRecDepth 100000
theorem seatTie1 : Tryz.prog.laidByTextLater [("math/bits.deBruijn32tab", Rows.laid_math_bits_deBruijn32tab), ("math/bits.deBruijn64tab", Rows.laid_math_bits_deBruijn64tab), ("loop.example/pub-g03249/pub/bigall.divRecursiveThreshold", Rows.laid_loop_example_pub_g03249_pub_bigall_divRecursiveThreshold), ("loop.example/pub-g03249/pub/bigall.karatsubaThreshold", Rows.laid_loop_example_pub_g03249_pub_bigall_karatsubaThreshold), ("loop.example/pub-g03249/pub/bigall.basicSqrThreshold", Rows.laid_loop_example_pub_g03249_pub_bigall_basicSqrThreshold), ("loop.example/pub-g03249/pub/bigall.karatsubaSqrThreshold", Rows.laid_loop_example_pub_g03249_pub_bigall_karatsubaSqrThreshold)] [.data, .data, .data, .data, .data, .data] true :=
  Program.laidByTextLater_by_one 35 8 65 (by kernel_rfl) (by kernel_rfl) (by kernel_rfl) (by kernel_rfl) (by kernel_rfl) (by kernel_rfl) (fun _ _ => by kernel_rfl)
theorem noOwnUnsafe : Tryz.pinned.checked.prog.headLifts.contains "ownunsafe" = false := by kernel_rfl
theorem tie : Tryz.prog.laidByTextLater [("math/bits.deBruijn32tab", Rows.laid_math_bits_deBruijn32tab), ("math/bits.deBruijn64tab", Rows.laid_math_bits_deBruijn64tab), ("loop.example/pub-g03249/pub/bigall.karatsubaThreshold", Rows.laid_loop_example_pub_g03249_pub_bigall_karatsubaThreshold), ("loop.example/pub-g03249/pub/bigall.basicSqrThreshold", Rows.laid_loop_example_pub_g03249_pub_bigall_basicSqrThreshold), ("loop.example/pub-g03249/pub/bigall.karatsubaSqrThreshold", Rows.laid_loop_example_pub_g03249_pub_bigall_karatsubaSqrThreshold)] [.data, .data, .data, .data, .data] true :=
  Program.laidByTextLater.sub seatTie1 ["math/bits.deBruijn32tab", "math/bits.deBruijn64tab", "loop.example/pub-g03249/pub/bigall.karatsubaThreshold", "loop.example/pub-g03249/pub/bigall.basicSqrThreshold", "loop.example/pub-g03249/pub/bigall.karatsubaSqrThreshold"] (by kernel_rfl) (by kernel_rfl)
theorem fnRoot_row_tie : Rows.fnRootRow.laidByTextAt .later Tryz.pinned [.data, .data, .data, .data, .data] true :=
  OpenClaim.laidByTextAt_later rfl rfl tie noOwnUnsafe
theorem tie2 : Tryz.prog.laidByTextLater [("math/bits.deBruijn32tab", Rows.laid_math_bits_deBruijn32tab), ("math/bits.deBruijn64tab", Rows.laid_math_bits_deBruijn64tab), ("loop.example/pub-g03249/pub/bigall.divRecursiveThreshold", Rows.laid_loop_example_pub_g03249_pub_bigall_divRecursiveThreshold), ("loop.example/pub-g03249/pub/bigall.karatsubaThreshold", Rows.laid_loop_example_pub_g03249_pub_bigall_karatsubaThreshold), ("loop.example/pub-g03249/pub/bigall.basicSqrThreshold", Rows.laid_loop_example_pub_g03249_pub_bigall_basicSqrThreshold), ("loop.example/pub-g03249/pub/bigall.karatsubaSqrThreshold", Rows.laid_loop_example_pub_g03249_pub_bigall_karatsubaSqrThreshold)] [.data, .data, .data, .data, .data, .data] true :=
  Program.laidByTextLater.sub seatTie1 ["math/bits.deBruijn32tab", "math/bits.deBruijn64tab", "loop.example/pub-g03249/pub/bigall.divRecursiveThreshold", "loop.example/pub-g03249/pub/bigall.karatsubaThreshold", "loop.example/pub-g03249/pub/bigall.basicSqrThreshold", "loop.example/pub-g03249/pub/bigall.karatsubaSqrThreshold"] (by kernel_rfl) (by kernel_rfl)
theorem fnByZero_row_tie : Rows.fnByZeroRow.laidByTextAt .later Tryz.pinned [.data, .data, .data, .data, .data, .data] true :=
  OpenClaim.laidByTextAt_later rfl rfl tie2 noOwnUnsafe
theorem fnErrNaN_row_tie : Rows.fnErrNaNRow.laidByTextAt .later Tryz.pinned [.data, .data, .data, .data, .data, .data] true :=
  OpenClaim.laidByTextAt_later rfl rfl tie2 noOwnUnsafe
theorem fnRootUpto_row_tie : Rows.fnRootUptoRow.laidByTextAt .later Tryz.pinned [.data, .data, .data, .data, .data] true :=
  OpenClaim.laidByTextAt_later rfl rfl tie noOwnUnsafe
theorem fnByZeroUpto_row_tie : Rows.fnByZeroUptoRow.laidByTextAt .later Tryz.pinned [.data, .data, .data, .data, .data, .data] true :=
  OpenClaim.laidByTextAt_later rfl rfl tie2 noOwnUnsafe
theorem fnErrNaNUpto_row_tie : Rows.fnErrNaNUptoRow.laidByTextAt .later Tryz.pinned [.data, .data, .data, .data, .data, .data] true :=
  OpenClaim.laidByTextAt_later rfl rfl tie2 noOwnUnsafe
end Go.Proofs.YtglikgjaobedbaaGreatDoor
