/-
  DERIVED. GIVEN WITH THE SEED: THE PROGRAM's TIES (one call each: nine closed facts by the kernel) AND EACH ROW's TIE, after the 31st guide's Derived/Test/Toyas{Tie, Card}.lean. No idea stands in it: it is a product of the set-up. Laid BY PROGRAM, IN A SANDBOX (cutbox-door.mjs). By AI agents, Wed Nov 11 2026. No macro, syntax, notation, axiom, sorry.
-/
import Derived.Test.YtjejffijhlppmaaGreatDoorRows
import Derived.LaidByTextLater
import Derived.SevenTiedAt
import Derived.LaidSub
import Derived.LaidOnce
namespace Go.Proofs.YtjejffijhlppmaaGreatDoor
open Go
set_option maxRecDepth 100000
theorem seatTie1 : Tryz.prog.laidByTextLater [("math/bits.deBruijn64tab", Rows.laid_math_bits_deBruijn64tab), ("loop.example/pub-divisionbyconstants/pub/big2.divRecursiveThreshold", Rows.laid_loop_example_pub_divisionbyconstants_pub_big2_divRecursiveThreshold), ("loop.example/pub-divisionbyconstants/pub/big2.karatsubaThreshold", Rows.laid_loop_example_pub_divisionbyconstants_pub_big2_karatsubaThreshold), ("loop.example/pub-divisionbyconstants/pub/big2.basicSqrThreshold", Rows.laid_loop_example_pub_divisionbyconstants_pub_big2_basicSqrThreshold), ("loop.example/pub-divisionbyconstants/pub/big2.karatsubaSqrThreshold", Rows.laid_loop_example_pub_divisionbyconstants_pub_big2_karatsubaSqrThreshold)] [.data, .data, .data, .data, .data] true :=
  Program.laidByTextLater_by_one 30 8 65 (by kernel_rfl) (by kernel_rfl) (by kernel_rfl) (by kernel_rfl) (by kernel_rfl) (by kernel_rfl) (fun _ _ => by kernel_rfl)
theorem noOwnUnsafe : Tryz.pinned.checked.prog.headLifts.contains "ownunsafe" = false := by kernel_rfl
theorem tie : Tryz.prog.laidByTextLater [("math/bits.deBruijn64tab", Rows.laid_math_bits_deBruijn64tab), ("loop.example/pub-divisionbyconstants/pub/big2.divRecursiveThreshold", Rows.laid_loop_example_pub_divisionbyconstants_pub_big2_divRecursiveThreshold), ("loop.example/pub-divisionbyconstants/pub/big2.karatsubaThreshold", Rows.laid_loop_example_pub_divisionbyconstants_pub_big2_karatsubaThreshold), ("loop.example/pub-divisionbyconstants/pub/big2.basicSqrThreshold", Rows.laid_loop_example_pub_divisionbyconstants_pub_big2_basicSqrThreshold), ("loop.example/pub-divisionbyconstants/pub/big2.karatsubaSqrThreshold", Rows.laid_loop_example_pub_divisionbyconstants_pub_big2_karatsubaSqrThreshold)] [.data, .data, .data, .data, .data] true :=
  Program.laidByTextLater.sub seatTie1 ["math/bits.deBruijn64tab", "loop.example/pub-divisionbyconstants/pub/big2.divRecursiveThreshold", "loop.example/pub-divisionbyconstants/pub/big2.karatsubaThreshold", "loop.example/pub-divisionbyconstants/pub/big2.basicSqrThreshold", "loop.example/pub-divisionbyconstants/pub/big2.karatsubaSqrThreshold"] (by kernel_rfl) (by kernel_rfl)
theorem fnWidths_row_tie : Rows.fnWidthsRow.laidByTextAt .later Tryz.pinned [.data, .data, .data, .data, .data] true :=
  OpenClaim.laidByTextAt_later rfl rfl tie noOwnUnsafe
theorem fnGo_row_tie : Rows.fnGoRow.laidByTextAt .later Tryz.pinned [.data, .data, .data, .data, .data] true :=
  OpenClaim.laidByTextAt_later rfl rfl tie noOwnUnsafe
theorem fnTwoSigns_row_tie : Rows.fnTwoSignsRow.laidByTextAt .later Tryz.pinned [.data, .data, .data, .data, .data] true :=
  OpenClaim.laidByTextAt_later rfl rfl tie noOwnUnsafe
theorem fnOpposite_row_tie : Rows.fnOppositeRow.laidByTextAt .later Tryz.pinned [.data, .data, .data, .data, .data] true :=
  OpenClaim.laidByTextAt_later rfl rfl tie noOwnUnsafe
theorem fnTwoRoads_row_tie : Rows.fnTwoRoadsRow.laidByTextAt .later Tryz.pinned [.data, .data, .data, .data, .data] true :=
  OpenClaim.laidByTextAt_later rfl rfl tie noOwnUnsafe
theorem tie2 : Tryz.prog.laidByTextLater [("loop.example/pub-divisionbyconstants/pub/big2.divRecursiveThreshold", Rows.laid_loop_example_pub_divisionbyconstants_pub_big2_divRecursiveThreshold), ("loop.example/pub-divisionbyconstants/pub/big2.karatsubaThreshold", Rows.laid_loop_example_pub_divisionbyconstants_pub_big2_karatsubaThreshold), ("loop.example/pub-divisionbyconstants/pub/big2.basicSqrThreshold", Rows.laid_loop_example_pub_divisionbyconstants_pub_big2_basicSqrThreshold), ("loop.example/pub-divisionbyconstants/pub/big2.karatsubaSqrThreshold", Rows.laid_loop_example_pub_divisionbyconstants_pub_big2_karatsubaSqrThreshold)] [.data, .data, .data, .data] true :=
  Program.laidByTextLater.sub seatTie1 ["loop.example/pub-divisionbyconstants/pub/big2.divRecursiveThreshold", "loop.example/pub-divisionbyconstants/pub/big2.karatsubaThreshold", "loop.example/pub-divisionbyconstants/pub/big2.basicSqrThreshold", "loop.example/pub-divisionbyconstants/pub/big2.karatsubaSqrThreshold"] (by kernel_rfl) (by kernel_rfl)
theorem fnSignedConstants_row_tie : Rows.fnSignedConstantsRow.laidByTextAt .later Tryz.pinned [.data, .data, .data, .data] true :=
  OpenClaim.laidByTextAt_later rfl rfl tie2 noOwnUnsafe
theorem fnSignedQuotient_row_tie : Rows.fnSignedQuotientRow.laidByTextAt .later Tryz.pinned [.data, .data, .data, .data] true :=
  OpenClaim.laidByTextAt_later rfl rfl tie2 noOwnUnsafe
theorem fnRemainder_row_tie : Rows.fnRemainderRow.laidByTextAt .later Tryz.pinned [.data, .data, .data, .data] true :=
  OpenClaim.laidByTextAt_later rfl rfl tie2 noOwnUnsafe
theorem fnStep_row_tie : Rows.fnStepRow.laidByTextAt .later Tryz.pinned [.data, .data, .data, .data] true :=
  OpenClaim.laidByTextAt_later rfl rfl tie2 noOwnUnsafe
theorem fnUnsignedConstants_row_tie : Rows.fnUnsignedConstantsRow.laidByTextAt .later Tryz.pinned [.data, .data, .data, .data] true :=
  OpenClaim.laidByTextAt_later rfl rfl tie2 noOwnUnsafe
theorem fnUnsignedQuotient_row_tie : Rows.fnUnsignedQuotientRow.laidByTextAt .later Tryz.pinned [.data, .data, .data, .data] true :=
  OpenClaim.laidByTextAt_later rfl rfl tie2 noOwnUnsafe
theorem fnWidthsUpto_row_tie : Rows.fnWidthsUptoRow.laidByTextAt .later Tryz.pinned [.data, .data, .data, .data, .data] true :=
  OpenClaim.laidByTextAt_later rfl rfl tie noOwnUnsafe
theorem fnGoUpto_row_tie : Rows.fnGoUptoRow.laidByTextAt .later Tryz.pinned [.data, .data, .data, .data, .data] true :=
  OpenClaim.laidByTextAt_later rfl rfl tie noOwnUnsafe
theorem fnTwoSignsUpto_row_tie : Rows.fnTwoSignsUptoRow.laidByTextAt .later Tryz.pinned [.data, .data, .data, .data, .data] true :=
  OpenClaim.laidByTextAt_later rfl rfl tie noOwnUnsafe
theorem fnSignedConstantsUpto_row_tie : Rows.fnSignedConstantsUptoRow.laidByTextAt .later Tryz.pinned [.data, .data, .data, .data] true :=
  OpenClaim.laidByTextAt_later rfl rfl tie2 noOwnUnsafe
theorem fnSignedQuotientUpto_row_tie : Rows.fnSignedQuotientUptoRow.laidByTextAt .later Tryz.pinned [.data, .data, .data, .data] true :=
  OpenClaim.laidByTextAt_later rfl rfl tie2 noOwnUnsafe
theorem fnRemainderUpto_row_tie : Rows.fnRemainderUptoRow.laidByTextAt .later Tryz.pinned [.data, .data, .data, .data] true :=
  OpenClaim.laidByTextAt_later rfl rfl tie2 noOwnUnsafe
theorem fnStepUpto_row_tie : Rows.fnStepUptoRow.laidByTextAt .later Tryz.pinned [.data, .data, .data, .data] true :=
  OpenClaim.laidByTextAt_later rfl rfl tie2 noOwnUnsafe
theorem fnUnsignedConstantsUpto_row_tie : Rows.fnUnsignedConstantsUptoRow.laidByTextAt .later Tryz.pinned [.data, .data, .data, .data] true :=
  OpenClaim.laidByTextAt_later rfl rfl tie2 noOwnUnsafe
theorem fnUnsignedQuotientUpto_row_tie : Rows.fnUnsignedQuotientUptoRow.laidByTextAt .later Tryz.pinned [.data, .data, .data, .data] true :=
  OpenClaim.laidByTextAt_later rfl rfl tie2 noOwnUnsafe
theorem fnOppositeUpto_row_tie : Rows.fnOppositeUptoRow.laidByTextAt .later Tryz.pinned [.data, .data, .data, .data, .data] true :=
  OpenClaim.laidByTextAt_later rfl rfl tie noOwnUnsafe
theorem fnTwoRoadsUpto_row_tie : Rows.fnTwoRoadsUptoRow.laidByTextAt .later Tryz.pinned [.data, .data, .data, .data, .data] true :=
  OpenClaim.laidByTextAt_later rfl rfl tie noOwnUnsafe
end Go.Proofs.YtjejffijhlppmaaGreatDoor
