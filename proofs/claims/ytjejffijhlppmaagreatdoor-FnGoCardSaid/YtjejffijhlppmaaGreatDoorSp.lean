/-
  The contracts of the reference's reading of a test: Turned, Divides, DividesSigned, Size.
-/
import Derived.Test.YtjejffijhlppmaaGreatDoorUd
namespace Go.Proofs.YtjejffijhlppmaaGreatDoor
set_option linter.unusedVariables false
open Go.Dv Go.RowKit

theorem turned_any (n x k : Int) (hn : isW n) (h0 : 0 ≤ k) (h1 : k < n) (w : World) :
    Calls Tryz.prog 37 #[.int .u64 n, .int .u64 x, .int .i64 k] w fun e w' =>
      e = .returned (.int .u64 (turned n x k)) ∧ ∃ q, w.drewN q = w' := by
  obtain ⟨g0, g1⟩ := isW_range hn
  go_enter Tryz.func37, Tryz.ntmps37
  go_wp2_with (first | (go_at_call 15; refine (mask_any _ hn _).mono ?_; rintro e w' ⟨rfl, rfl⟩))
  go_quiet ((go_at_call 15; exact quietS (mask_any _ hn _)))
  go_wp2
  go_ret
  exact ⟨rfl, _, rfl⟩

theorem divides_any (n k m a mx x : Int) (hn : isW n) (h0 : 0 ≤ k) (h1 : k < n) (w : World) :
    Calls Tryz.prog 20 #[.int .u64 n, .agg #[.int .i64 k, .int .u64 m, .int .u64 a, .int .u64 mx], .int .u64 x] w fun e w' =>
      e = .returned (.bool (dvB n k m mx x)) ∧ Below w.heap.size w w' := by
  go_enter Tryz.func20, Tryz.ntmps20
  go_wp2_with fail
  go_quiet ((go_at_call 37; exact quietD (turned_any _ _ _ hn h0 h1 _)))
  go_wp2
  go_ret
  exact ⟨rfl, below_drewN ((Below.refl _ _).alloc (Nat.le_refl _) _) _⟩
theorem dividesSigned_any (n k m a mx x : Int) (hn : isW n) (h0 : 0 ≤ k) (h1 : k < n) (w : World) :
    Calls Tryz.prog 26 #[.int .u64 n, .agg #[.int .i64 k, .int .u64 m, .int .u64 a, .int .u64 mx], .int .i64 x] w fun e w' =>
      e = .returned (.bool (dsB n k m a mx x)) ∧ Below w.heap.size w w' := by
  go_enter Tryz.func26, Tryz.ntmps26
  go_wp2_with fail
  go_quiet ((go_at_call 37; exact quietD (turned_any _ _ _ hn h0 h1 _)))
  go_wp2
  go_ret
  exact ⟨rfl, below_drewN ((Below.refl _ _).alloc (Nat.le_refl _) _) _⟩
theorem size_any (x : Int) (h0 : -9223372036854775808 ≤ x) (h1 : x < 9223372036854775808) (w : World) :
    Calls Tryz.prog 25 #[.int .i64 x] w fun e w' => e = .returned (.int .u64 (siz x)) ∧ w = w' := by
  by_cases h : x < 0
  · have H := Lib.hid (siz_neg x h h0)
    clear h0 h1
    go_enter Tryz.func25, Tryz.ntmps25
    go_wp2
    go_ret
    exact ⟨ret_int H.out, rfl⟩
  · have H := Lib.hid (siz_pos x h h1)
    clear h0 h1
    go_enter Tryz.func25, Tryz.ntmps25
    go_wp2
    go_ret
    exact ⟨ret_int H.out, rfl⟩

end Go.Proofs.YtjejffijhlppmaaGreatDoor
