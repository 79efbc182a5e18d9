/-
  The walk of FnUnsignedDivides.
-/
import Derived.Test.YtdkcmpblfkgckaaDoorSp
import Derived.Test.YtdkcmpblfkgckaaDoorDvT
import Derived.Deep.RegionWith
namespace Go.Proofs.YtdkcmpblfkgckaaDoor
open Go.Dv Go.RowKit
set_option linter.unusedVariables false

theorem fnUnsignedDivides_zero (a0 a1 a2 n : Int) (b0 : 0 ≤ a0) (b1 : a0 ≤ 255) (hn : isW n) (en : wid a0 = n) (ec : bits BinOp.and IntKind.u64 a1 (msk n) = 0) (w : World) :
    Calls Tryd.prog 7 #[.int .u8 a0, .int .u64 a1, .int .u64 a2] w fun e w' => e = .returned (.bool true) ∧ Below w.heap.size w w' := by
  go_enter Tryd.func7, Tryd.ntmps7
  go_wp2_with (first | (go_at_call 9; refine (width_any a0 b0 b1 _).mono ?_; rintro e w' ⟨rfl, rfl⟩) | (go_at_call 10; refine (mask_any _ hn _).mono ?_; rintro e w' ⟨rfl, rfl⟩) | (go_at_call 11; refine (power_any _ _).mono ?_; rintro e w' ⟨rfl, rfl⟩))
  go_ret
  exact ⟨rfl, Below.refl _ _⟩

theorem fnUnsignedDivides_pow (a0 a1 a2 n c : Int) (b0 : 0 ≤ a0) (b1 : a0 ≤ 255) (hn : isW n) (en : wid a0 = n) (ec : bits BinOp.and IntKind.u64 a1 (msk n) = c) (cz : (c == 0) = false) (cp : powW c = true) (w : World) :
    Calls Tryd.prog 7 #[.int .u8 a0, .int .u64 a1, .int .u64 a2] w fun e w' => e = .returned (.bool true) ∧ Below w.heap.size w w' := by
  go_enter Tryd.func7, Tryd.ntmps7
  go_wp2_with (first | (go_at_call 9; refine (width_any a0 b0 b1 _).mono ?_; rintro e w' ⟨rfl, rfl⟩) | (go_at_call 10; refine (mask_any _ hn _).mono ?_; rintro e w' ⟨rfl, rfl⟩) | (go_at_call 11; refine (power_any _ _).mono ?_; rintro e w' ⟨rfl, rfl⟩))
  go_ret
  exact ⟨rfl, Below.refl _ _⟩

set_option maxHeartbeats 1000000 in
theorem fnUnsignedDivides_main (a0 a1 a2 n c x : Int) (b0 : 0 ≤ a0) (b1 : a0 ≤ 255) (hn : isW n) (en : wid a0 = n) (ec : bits BinOp.and IntKind.u64 a1 (msk n) = c) (ex : bits BinOp.and IntKind.u64 a2 (msk n) = x)
    (c0 : 0 < c) (c1 : c < pw n) (x0 : 0 ≤ x) (x1 : x < pw n) (cz : (c == 0) = false) (cp : powW c = false) (c2 : c < 18446744073709551616) (cd : Hid (low n (IntKind.i64.wrap c) = c)) (cd2 : Hid (low n (wrap64 c) = c)) (t0 : 0 ≤ tz c) (t1 : tz c < n) (H : Hid (dvB n (tz c) (inv n (oddp c)) (msk n / c) x = (x % c == 0))) (w : World) (hT : Tab w) :
    Calls Tryd.prog 7 #[.int .u8 a0, .int .u64 a1, .int .u64 a2] w fun e w' => e = .returned (.bool true) ∧ Below w.heap.size w w' := by
  go_enter Tryd.func7, Tryd.ntmps7
  go_wp2_with (first | (go_at_call 9; refine (width_any a0 b0 b1 _).mono ?_; rintro e w' ⟨rfl, rfl⟩) | (go_at_call 10; refine (mask_any _ hn _).mono ?_; rintro e w' ⟨rfl, rfl⟩) | (go_at_call 11; refine (power_any _ _).mono ?_; rintro e w' ⟨rfl, rfl⟩))
  go_region_with (first | (go_at_call 13; refine (udivisible_any n _ c hn c0 c2 ?_ _ ?_).mono ?_; (first | exact cd.out | exact cd2.out); (exact hT.drew); rintro e w1 ⟨rfl, hb1⟩) | (go_at_call 12; refine (divides_any n _ _ _ _ _ hn t0 t1 _).mono ?_; rintro e w2 ⟨rfl, hb2⟩))
  all_goals go_wp2
  all_goals go_ret
  all_goals exact ⟨ret_bool (eq_tt H.out), ((Below.refl w.heap.size w).drew.trans hb1).trans (hb2.mono hb1.size)⟩

theorem fnUnsignedDivides_walk (a0 a1 a2 : Int) (w0 : (Lit.int .u8 a0).wf = true) (w1 : (Lit.int .u64 a1).wf = true) (w2 : (Lit.int .u64 a2).wf = true) (w : World) (hT : Tab w) :
    Calls Tryd.prog 7 #[.int .u8 a0, .int .u64 a1, .int .u64 a2] w fun e w' => e = .returned (.bool true) ∧ Below w.heap.size w w' := by
  obtain ⟨b0, b1⟩ := bounds_u8 w0
  obtain ⟨b2, b3⟩ := bounds_u64 w1
  obtain ⟨b4, b5⟩ := bounds_u64 w2
  have hn := isW_wid a0 b0 b1
  obtain ⟨n, en⟩ : ∃ n, wid a0 = n := ⟨_, rfl⟩
  rw [en] at hn
  obtain ⟨p0, p1, -⟩ := pw_pos hn
  obtain ⟨c, ec⟩ : ∃ c, bits BinOp.and IntKind.u64 a1 (msk n) = c := ⟨_, rfl⟩
  obtain ⟨x, ex⟩ : ∃ x, bits BinOp.and IntKind.u64 a2 (msk n) = x := ⟨_, rfl⟩
  obtain ⟨c0, c1, -⟩ := cut_range hn a1 b2 b3
  obtain ⟨x0, x1, -⟩ := cut_range hn a2 b4 b5
  rw [ec] at c0 c1
  rw [ex] at x0 x1
  by_cases hz : c = 0
  · subst hz
    exact fnUnsignedDivides_zero a0 a1 a2 n b0 b1 hn en ec w
  · have cz : (c == 0) = false := by simpa using hz
    cases hp : powW c with
    | true => exact fnUnsignedDivides_pow a0 a1 a2 n c b0 b1 hn en ec cz hp w
    | false =>
      obtain ⟨t0, t1, -⟩ := tz_lt hn c (by omega) c1
      obtain ⟨l1, l2⟩ := low_wrap hn c c0 c1
      exact fnUnsignedDivides_main a0 a1 a2 n c x b0 b1 hn en ec ex (by omega) c1 x0 x1 cz hp (by omega) l1 l2 t0 t1 (udiv_law hn c x (by omega) c1 x0 x1) w hT
end Go.Proofs.YtdkcmpblfkgckaaDoor
