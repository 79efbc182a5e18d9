/-
  More contracts of the laws' steps: the size, under a name; the range of a quotient.
-/
import Derived.Test.YtjejffijhlppmaaGreatDoorNl
namespace Go.Proofs.YtjejffijhlppmaaGreatDoor
open Go.Dv Go.RowKit
set_option linter.unusedVariables false
theorem sizeQ (x y : Int) (hy : Hid (siz x = y)) (h0 : -9223372036854775808 ≤ x) (h1 : x < 9223372036854775808) (w : World) :
    Calls Tryz.prog 25 #[.int .i64 x] w fun e w' => e = .returned (.int .u64 y) ∧ w = w' := by
  rw [← hy.out]
  exact size_any x h0 h1 w
theorem quo_range (y c : Int) (h0 : 0 ≤ y) (hc : 0 < c) : 0 ≤ y / c ∧ y / c ≤ y :=
  ⟨Int.ediv_nonneg h0 (by omega), Int.ediv_le_self _ h0⟩
end Go.Proofs.YtjejffijhlppmaaGreatDoor
