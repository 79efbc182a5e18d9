/-
  The nine ways through FnTestsOK: each answers true.
-/
import Derived.Test.YtdkcmpblfkgckaaOk
import Derived.Test.YtdkcmpblfkgckaaDvL
namespace Go.Proofs.Ytdkcmpblfkgckaa
open Go.Dv Go.RowKit

set_option maxHeartbeats 1000000 in
theorem tests_00 (a0 a1 : Int) (c1 : 0 ≤ a0) (c2 : a0 ≤ 255) (hn : isW (wid a0)) (w : World) (hs : sgn (wid a0) a1 < 9223372036854775808)
    (t1 : umOK (wid a0) (wrap64 (bits .and .u64 a1 (msk (wid a0)))) = true) (t2 : (bits .and .u64 a1 (msk (wid a0)) == 0) = false) (t3 : powW (bits .and .u64 a1 (msk (wid a0))) = false)
    (u1 : smOK (sgn (wid a0) a1) = true) (u2 : decide (sgn (wid a0) a1 ≤ 0) = false) (u3 : powW (IntKind.u64.wrap (sgn (wid a0) a1)) = false) :
    Calls Try.prog 5 #[.int .u8 a0, .int .u64 a1] w fun e w' => e = .returned (.bool true) ∧ Grown w w' := by
  go_enter Try.func5, Try.ntmps5
  go_wp2_with (first | (go_at_call 8; refine (width_any a0 c1 c2 _).mono ?_; rintro e w' ⟨rfl, rfl⟩) | (go_at_call 9; refine (mask_any _ hn _).mono ?_; rintro e w' ⟨rfl, rfl⟩) | (go_at_call 12; refine (signed_any _ _ hn _).mono ?_; rintro e w' ⟨rfl, rfl⟩) | (go_at_call 14; refine (udivisibleOK_any _ _ hn _).mono ?_; rintro e w' ⟨rfl, rfl⟩) | (go_at_call 15; refine (sdivisibleOK_any _ _ hs _).mono ?_; rintro e w' ⟨rfl, rfl⟩) | (go_at_call 11; refine (power_any _ _).mono ?_; rintro e w' ⟨rfl, rfl⟩))
  all_goals go_ret
  all_goals exact ⟨rfl, Grown.refl _⟩

set_option maxHeartbeats 1000000 in
theorem tests_01 (a0 a1 : Int) (c1 : 0 ≤ a0) (c2 : a0 ≤ 255) (hn : isW (wid a0)) (w : World) (hs : sgn (wid a0) a1 < 9223372036854775808)
    (t1 : umOK (wid a0) (wrap64 (bits .and .u64 a1 (msk (wid a0)))) = true) (t2 : (bits .and .u64 a1 (msk (wid a0)) == 0) = false) (t3 : powW (bits .and .u64 a1 (msk (wid a0))) = false)
    (u1 : smOK (sgn (wid a0) a1) = false) (u2 : (bits .and .i64 (sgn (wid a0) a1) 1 == 0) = true) :
    Calls Try.prog 5 #[.int .u8 a0, .int .u64 a1] w fun e w' => e = .returned (.bool true) ∧ Grown w w' := by
  go_enter Try.func5, Try.ntmps5
  go_wp2_with (first | (go_at_call 8; refine (width_any a0 c1 c2 _).mono ?_; rintro e w' ⟨rfl, rfl⟩) | (go_at_call 9; refine (mask_any _ hn _).mono ?_; rintro e w' ⟨rfl, rfl⟩) | (go_at_call 12; refine (signed_any _ _ hn _).mono ?_; rintro e w' ⟨rfl, rfl⟩) | (go_at_call 14; refine (udivisibleOK_any _ _ hn _).mono ?_; rintro e w' ⟨rfl, rfl⟩) | (go_at_call 15; refine (sdivisibleOK_any _ _ hs _).mono ?_; rintro e w' ⟨rfl, rfl⟩) | (go_at_call 11; refine (power_any _ _).mono ?_; rintro e w' ⟨rfl, rfl⟩))
  all_goals go_ret
  all_goals exact ⟨rfl, Grown.refl _⟩

set_option maxHeartbeats 1000000 in
theorem tests_02 (a0 a1 : Int) (c1 : 0 ≤ a0) (c2 : a0 ≤ 255) (hn : isW (wid a0)) (w : World) (hs : sgn (wid a0) a1 < 9223372036854775808)
    (t1 : umOK (wid a0) (wrap64 (bits .and .u64 a1 (msk (wid a0)))) = true) (t2 : (bits .and .u64 a1 (msk (wid a0)) == 0) = false) (t3 : powW (bits .and .u64 a1 (msk (wid a0))) = false)
    (u1 : smOK (sgn (wid a0) a1) = false) (u2 : (bits .and .i64 (sgn (wid a0) a1) 1 == 0) = false) (u3 : decide (sgn (wid a0) a1 < 3) = true) :
    Calls Try.prog 5 #[.int .u8 a0, .int .u64 a1] w fun e w' => e = .returned (.bool true) ∧ Grown w w' := by
  go_enter Try.func5, Try.ntmps5
  go_wp2_with (first | (go_at_call 8; refine (width_any a0 c1 c2 _).mono ?_; rintro e w' ⟨rfl, rfl⟩) | (go_at_call 9; refine (mask_any _ hn _).mono ?_; rintro e w' ⟨rfl, rfl⟩) | (go_at_call 12; refine (signed_any _ _ hn _).mono ?_; rintro e w' ⟨rfl, rfl⟩) | (go_at_call 14; refine (udivisibleOK_any _ _ hn _).mono ?_; rintro e w' ⟨rfl, rfl⟩) | (go_at_call 15; refine (sdivisibleOK_any _ _ hs _).mono ?_; rintro e w' ⟨rfl, rfl⟩) | (go_at_call 11; refine (power_any _ _).mono ?_; rintro e w' ⟨rfl, rfl⟩))
  all_goals go_ret
  all_goals exact ⟨rfl, Grown.refl _⟩

set_option maxHeartbeats 1000000 in
theorem tests_10 (a0 a1 : Int) (c1 : 0 ≤ a0) (c2 : a0 ≤ 255) (hn : isW (wid a0)) (w : World) (hs : sgn (wid a0) a1 < 9223372036854775808)
    (t1 : umOK (wid a0) (wrap64 (bits .and .u64 a1 (msk (wid a0)))) = false) (t2 : (bits .and .u64 (bits .and .u64 a1 (msk (wid a0))) 1 == 0) = true)
    (u1 : smOK (sgn (wid a0) a1) = true) (u2 : decide (sgn (wid a0) a1 ≤ 0) = false) (u3 : powW (IntKind.u64.wrap (sgn (wid a0) a1)) = false) :
    Calls Try.prog 5 #[.int .u8 a0, .int .u64 a1] w fun e w' => e = .returned (.bool true) ∧ Grown w w' := by
  go_enter Try.func5, Try.ntmps5
  go_wp2_with (first | (go_at_call 8; refine (width_any a0 c1 c2 _).mono ?_; rintro e w' ⟨rfl, rfl⟩) | (go_at_call 9; refine (mask_any _ hn _).mono ?_; rintro e w' ⟨rfl, rfl⟩) | (go_at_call 12; refine (signed_any _ _ hn _).mono ?_; rintro e w' ⟨rfl, rfl⟩) | (go_at_call 14; refine (udivisibleOK_any _ _ hn _).mono ?_; rintro e w' ⟨rfl, rfl⟩) | (go_at_call 15; refine (sdivisibleOK_any _ _ hs _).mono ?_; rintro e w' ⟨rfl, rfl⟩) | (go_at_call 11; refine (power_any _ _).mono ?_; rintro e w' ⟨rfl, rfl⟩))
  all_goals go_ret
  all_goals exact ⟨rfl, Grown.refl _⟩

set_option maxHeartbeats 1000000 in
theorem tests_11 (a0 a1 : Int) (c1 : 0 ≤ a0) (c2 : a0 ≤ 255) (hn : isW (wid a0)) (w : World) (hs : sgn (wid a0) a1 < 9223372036854775808)
    (t1 : umOK (wid a0) (wrap64 (bits .and .u64 a1 (msk (wid a0)))) = false) (t2 : (bits .and .u64 (bits .and .u64 a1 (msk (wid a0))) 1 == 0) = true)
    (u1 : smOK (sgn (wid a0) a1) = false) (u2 : (bits .and .i64 (sgn (wid a0) a1) 1 == 0) = true) :
    Calls Try.prog 5 #[.int .u8 a0, .int .u64 a1] w fun e w' => e = .returned (.bool true) ∧ Grown w w' := by
  go_enter Try.func5, Try.ntmps5
  go_wp2_with (first | (go_at_call 8; refine (width_any a0 c1 c2 _).mono ?_; rintro e w' ⟨rfl, rfl⟩) | (go_at_call 9; refine (mask_any _ hn _).mono ?_; rintro e w' ⟨rfl, rfl⟩) | (go_at_call 12; refine (signed_any _ _ hn _).mono ?_; rintro e w' ⟨rfl, rfl⟩) | (go_at_call 14; refine (udivisibleOK_any _ _ hn _).mono ?_; rintro e w' ⟨rfl, rfl⟩) | (go_at_call 15; refine (sdivisibleOK_any _ _ hs _).mono ?_; rintro e w' ⟨rfl, rfl⟩) | (go_at_call 11; refine (power_any _ _).mono ?_; rintro e w' ⟨rfl, rfl⟩))
  all_goals go_ret
  all_goals exact ⟨rfl, Grown.refl _⟩

set_option maxHeartbeats 1000000 in
theorem tests_12 (a0 a1 : Int) (c1 : 0 ≤ a0) (c2 : a0 ≤ 255) (hn : isW (wid a0)) (w : World) (hs : sgn (wid a0) a1 < 9223372036854775808)
    (t1 : umOK (wid a0) (wrap64 (bits .and .u64 a1 (msk (wid a0)))) = false) (t2 : (bits .and .u64 (bits .and .u64 a1 (msk (wid a0))) 1 == 0) = true)
    (u1 : smOK (sgn (wid a0) a1) = false) (u2 : (bits .and .i64 (sgn (wid a0) a1) 1 == 0) = false) (u3 : decide (sgn (wid a0) a1 < 3) = true) :
    Calls Try.prog 5 #[.int .u8 a0, .int .u64 a1] w fun e w' => e = .returned (.bool true) ∧ Grown w w' := by
  go_enter Try.func5, Try.ntmps5
  go_wp2_with (first | (go_at_call 8; refine (width_any a0 c1 c2 _).mono ?_; rintro e w' ⟨rfl, rfl⟩) | (go_at_call 9; refine (mask_any _ hn _).mono ?_; rintro e w' ⟨rfl, rfl⟩) | (go_at_call 12; refine (signed_any _ _ hn _).mono ?_; rintro e w' ⟨rfl, rfl⟩) | (go_at_call 14; refine (udivisibleOK_any _ _ hn _).mono ?_; rintro e w' ⟨rfl, rfl⟩) | (go_at_call 15; refine (sdivisibleOK_any _ _ hs _).mono ?_; rintro e w' ⟨rfl, rfl⟩) | (go_at_call 11; refine (power_any _ _).mono ?_; rintro e w' ⟨rfl, rfl⟩))
  all_goals go_ret
  all_goals exact ⟨rfl, Grown.refl _⟩

set_option maxHeartbeats 1000000 in
theorem tests_20 (a0 a1 : Int) (c1 : 0 ≤ a0) (c2 : a0 ≤ 255) (hn : isW (wid a0)) (w : World) (hs : sgn (wid a0) a1 < 9223372036854775808)
    (t1 : umOK (wid a0) (wrap64 (bits .and .u64 a1 (msk (wid a0)))) = false) (t2 : (bits .and .u64 (bits .and .u64 a1 (msk (wid a0))) 1 == 0) = false) (t3 : decide (bits .and .u64 a1 (msk (wid a0)) < 3) = true)
    (u1 : smOK (sgn (wid a0) a1) = true) (u2 : decide (sgn (wid a0) a1 ≤ 0) = false) (u3 : powW (IntKind.u64.wrap (sgn (wid a0) a1)) = false) :
    Calls Try.prog 5 #[.int .u8 a0, .int .u64 a1] w fun e w' => e = .returned (.bool true) ∧ Grown w w' := by
  go_enter Try.func5, Try.ntmps5
  go_wp2_with (first | (go_at_call 8; refine (width_any a0 c1 c2 _).mono ?_; rintro e w' ⟨rfl, rfl⟩) | (go_at_call 9; refine (mask_any _ hn _).mono ?_; rintro e w' ⟨rfl, rfl⟩) | (go_at_call 12; refine (signed_any _ _ hn _).mono ?_; rintro e w' ⟨rfl, rfl⟩) | (go_at_call 14; refine (udivisibleOK_any _ _ hn _).mono ?_; rintro e w' ⟨rfl, rfl⟩) | (go_at_call 15; refine (sdivisibleOK_any _ _ hs _).mono ?_; rintro e w' ⟨rfl, rfl⟩) | (go_at_call 11; refine (power_any _ _).mono ?_; rintro e w' ⟨rfl, rfl⟩))
  all_goals go_ret
  all_goals exact ⟨rfl, Grown.refl _⟩

set_option maxHeartbeats 1000000 in
theorem tests_21 (a0 a1 : Int) (c1 : 0 ≤ a0) (c2 : a0 ≤ 255) (hn : isW (wid a0)) (w : World) (hs : sgn (wid a0) a1 < 9223372036854775808)
    (t1 : umOK (wid a0) (wrap64 (bits .and .u64 a1 (msk (wid a0)))) = false) (t2 : (bits .and .u64 (bits .and .u64 a1 (msk (wid a0))) 1 == 0) = false) (t3 : decide (bits .and .u64 a1 (msk (wid a0)) < 3) = true)
    (u1 : smOK (sgn (wid a0) a1) = false) (u2 : (bits .and .i64 (sgn (wid a0) a1) 1 == 0) = true) :
    Calls Try.prog 5 #[.int .u8 a0, .int .u64 a1] w fun e w' => e = .returned (.bool true) ∧ Grown w w' := by
  go_enter Try.func5, Try.ntmps5
  go_wp2_with (first | (go_at_call 8; refine (width_any a0 c1 c2 _).mono ?_; rintro e w' ⟨rfl, rfl⟩) | (go_at_call 9; refine (mask_any _ hn _).mono ?_; rintro e w' ⟨rfl, rfl⟩) | (go_at_call 12; refine (signed_any _ _ hn _).mono ?_; rintro e w' ⟨rfl, rfl⟩) | (go_at_call 14; refine (udivisibleOK_any _ _ hn _).mono ?_; rintro e w' ⟨rfl, rfl⟩) | (go_at_call 15; refine (sdivisibleOK_any _ _ hs _).mono ?_; rintro e w' ⟨rfl, rfl⟩) | (go_at_call 11; refine (power_any _ _).mono ?_; rintro e w' ⟨rfl, rfl⟩))
  all_goals go_ret
  all_goals exact ⟨rfl, Grown.refl _⟩

set_option maxHeartbeats 1000000 in
theorem tests_22 (a0 a1 : Int) (c1 : 0 ≤ a0) (c2 : a0 ≤ 255) (hn : isW (wid a0)) (w : World) (hs : sgn (wid a0) a1 < 9223372036854775808)
    (t1 : umOK (wid a0) (wrap64 (bits .and .u64 a1 (msk (wid a0)))) = false) (t2 : (bits .and .u64 (bits .and .u64 a1 (msk (wid a0))) 1 == 0) = false) (t3 : decide (bits .and .u64 a1 (msk (wid a0)) < 3) = true)
    (u1 : smOK (sgn (wid a0) a1) = false) (u2 : (bits .and .i64 (sgn (wid a0) a1) 1 == 0) = false) (u3 : decide (sgn (wid a0) a1 < 3) = true) :
    Calls Try.prog 5 #[.int .u8 a0, .int .u64 a1] w fun e w' => e = .returned (.bool true) ∧ Grown w w' := by
  go_enter Try.func5, Try.ntmps5
  go_wp2_with (first | (go_at_call 8; refine (width_any a0 c1 c2 _).mono ?_; rintro e w' ⟨rfl, rfl⟩) | (go_at_call 9; refine (mask_any _ hn _).mono ?_; rintro e w' ⟨rfl, rfl⟩) | (go_at_call 12; refine (signed_any _ _ hn _).mono ?_; rintro e w' ⟨rfl, rfl⟩) | (go_at_call 14; refine (udivisibleOK_any _ _ hn _).mono ?_; rintro e w' ⟨rfl, rfl⟩) | (go_at_call 15; refine (sdivisibleOK_any _ _ hs _).mono ?_; rintro e w' ⟨rfl, rfl⟩) | (go_at_call 11; refine (power_any _ _).mono ?_; rintro e w' ⟨rfl, rfl⟩))
  all_goals go_ret
  all_goals exact ⟨rfl, Grown.refl _⟩
end Go.Proofs.Ytdkcmpblfkgckaa
