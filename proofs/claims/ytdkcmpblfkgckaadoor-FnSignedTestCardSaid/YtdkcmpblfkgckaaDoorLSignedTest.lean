/-
  The walk of FnSignedTest.
-/
import Derived.Test.YtdkcmpblfkgckaaDoorSp
import Derived.Test.YtdkcmpblfkgckaaDoorDvT
import Derived.Deep.RegionWith
namespace Go.Proofs.YtdkcmpblfkgckaaDoor
open Go.Dv Go.RowKit
set_option linter.unusedVariables false

set_option maxHeartbeats 1000000 in
theorem fnSignedTest_zero (a0 a1 n : Int) (b0 : 0 ≤ a0) (b1 : a0 ≤ 255) (hn : isW n) (en : wid a0 = n) (ec : bits BinOp.and IntKind.u64 a1 (msk n / 2) = 0) (w : World) :
    Calls Tryd.prog 6 #[.int .u8 a0, .int .u64 a1] w fun e w' => e = .returned (.bool true) ∧ Below w.heap.size w w' := by
  go_enter Tryd.func6, Tryd.ntmps6
  go_wp2_with (first | (go_at_call 9; refine (width_any a0 b0 b1 _).mono ?_; rintro e w' ⟨rfl, rfl⟩) | (go_at_call 10; refine (mask_any _ hn _).mono ?_; rintro e w' ⟨rfl, rfl⟩) | (go_at_call 11; refine (power_any _ _).mono ?_; rintro e w' ⟨rfl, rfl⟩))
  go_ret
  exact ⟨rfl, Below.refl _ _⟩

set_option maxHeartbeats 1000000 in
theorem fnSignedTest_pow (a0 a1 n c : Int) (b0 : 0 ≤ a0) (b1 : a0 ≤ 255) (hn : isW n) (en : wid a0 = n) (ec : bits BinOp.and IntKind.u64 a1 (msk n / 2) = c) (cz : (c == 0) = false) (cp : powW c = true) (w : World) :
    Calls Tryd.prog 6 #[.int .u8 a0, .int .u64 a1] w fun e w' => e = .returned (.bool true) ∧ Below w.heap.size w w' := by
  go_enter Tryd.func6, Tryd.ntmps6
  go_wp2_with (first | (go_at_call 9; refine (width_any a0 b0 b1 _).mono ?_; rintro e w' ⟨rfl, rfl⟩) | (go_at_call 10; refine (mask_any _ hn _).mono ?_; rintro e w' ⟨rfl, rfl⟩) | (go_at_call 11; refine (power_any _ _).mono ?_; rintro e w' ⟨rfl, rfl⟩))
  go_ret
  exact ⟨rfl, Below.refl _ _⟩

set_option maxHeartbeats 2000000 in
theorem fnSignedTest_main (a0 a1 n c D : Int) (b0 : 0 ≤ a0) (b1 : a0 ≤ 255) (hn : isW n) (en : wid a0 = n) (ec : bits BinOp.and IntKind.u64 a1 (msk n / 2) = c)
    (c0 : 0 < c) (cz : (c == 0) = false) (cp : powW c = false) (c2 : c < 9223372036854775808) (ei : IntKind.i64.wrap c = c) (t0 : 0 ≤ tz c) (t1 : tz c < n) (t2 : tz c ≤ 63) (u2 : c < 18446744073709551616)
    (hD : c / 2 ^ (tz c).toNat = D) (hD2 : oddp c = D) (D0 : 0 < D) (m0 : 0 ≤ msk n) (m1 : msk n ≤ 18446744073709551615) (e1 : inv n D ≤ msk n) (e2 : (bits .and .u64 (IntKind.u64.wrap (inv n D * D)) (msk n) == 1) = true)
    (e3 : IntKind.u64.wrap (msk n / 2 / D / 2 ^ (tz c).toNat * 2 ^ (tz c).toNat) = sdA n c) (e4 : IntKind.u64.wrap (2 * sdA n c) / 2 ^ (tz c).toNat = sdM n c) (w : World) (hT : Tab w) :
    Calls Tryd.prog 6 #[.int .u8 a0, .int .u64 a1] w fun e w' => e = .returned (.bool true) ∧ Below w.heap.size w w' := by
  go_enter Tryd.func6, Tryd.ntmps6
  go_wp2_with (first | (go_at_call 9; refine (width_any a0 b0 b1 _).mono ?_; rintro e w' ⟨rfl, rfl⟩) | (go_at_call 10; refine (mask_any _ hn _).mono ?_; rintro e w' ⟨rfl, rfl⟩) | (go_at_call 11; refine (power_any _ _).mono ?_; rintro e w' ⟨rfl, rfl⟩) | (go_at_call 16; refine (sdivisible_any n c hn c0 c2 _ ?_).mono ?_; (first | exact hT | exact hT.drew); rintro e w1 ⟨rfl, hb1⟩) | (go_at_call 18; refine (zeros_any c c0 u2 _).mono ?_; rintro e w' ⟨rfl, rfl⟩))
  go_quiet (first | (go_at_call 18; exact quietS (zeros_any c c0 u2 _)) | (go_at_call 10; exact quietS (mask_any _ hn _)))
  go_wp2_with (first | (go_at_call 9; refine (width_any a0 b0 b1 _).mono ?_; rintro e w' ⟨rfl, rfl⟩) | (go_at_call 10; refine (mask_any _ hn _).mono ?_; rintro e w' ⟨rfl, rfl⟩) | (go_at_call 11; refine (power_any _ _).mono ?_; rintro e w' ⟨rfl, rfl⟩))
  go_quiet (first | (go_at_call 18; exact quietA (zeros_any c c0 u2 _)) | (go_at_call 10; exact quietA (mask_any _ hn _)))
  go_wp2_with (first | (go_at_call 9; refine (width_any a0 b0 b1 _).mono ?_; rintro e w' ⟨rfl, rfl⟩) | (go_at_call 10; refine (mask_any _ hn _).mono ?_; rintro e w' ⟨rfl, rfl⟩) | (go_at_call 11; refine (power_any _ _).mono ?_; rintro e w' ⟨rfl, rfl⟩))
  go_quiet (first | (go_at_call 18; exact quietA (zeros_any c c0 u2 _)) | (go_at_call 10; exact quietA (mask_any _ hn _)))
  go_wp2
  go_ret
  exact ⟨rfl, below_drewN (below_drewN (below_drewN ((((Below.refl w.heap.size w)).trans hb1).alloc hb1.size _) _) _) _⟩

theorem fnSignedTest_walk (a0 a1 : Int) (w0 : (Lit.int .u8 a0).wf = true) (w1 : (Lit.int .u64 a1).wf = true) (w : World) (hT : Tab w) :
    Calls Tryd.prog 6 #[.int .u8 a0, .int .u64 a1] w fun e w' => e = .returned (.bool true) ∧ Below w.heap.size w w' := by
  obtain ⟨b0, b1⟩ := bounds_u8 w0
  obtain ⟨b2, b3⟩ := bounds_u64 w1
  have hn := isW_wid a0 b0 b1
  obtain ⟨n, en⟩ : ∃ n, wid a0 = n := ⟨_, rfl⟩
  rw [en] at hn
  obtain ⟨p0, p1, p2⟩ := pw_pos hn
  obtain ⟨c, ec⟩ : ∃ c, bits BinOp.and IntKind.u64 a1 (msk n / 2) = c := ⟨_, rfl⟩
  obtain ⟨c0, c1⟩ := half_range hn a1 b2 b3
  rw [ec] at c0 c1
  by_cases hz : c = 0
  · subst hz
    exact fnSignedTest_zero a0 a1 n b0 b1 hn en ec w
  · have cz : (c == 0) = false := by simpa using hz
    cases hp : powW c with
    | true => exact fnSignedTest_pow a0 a1 n c b0 b1 hn en ec cz hp w
    | false =>
      obtain ⟨t0, t1, -⟩ := tz_lt hn c (by omega) (by omega)
      obtain ⟨l1, l2⟩ := low_wrap hn c c0 (by omega)
      obtain ⟨-, t2, -⟩ := tz_spec c (by omega) (by omega)
      obtain ⟨-, -, -, -, -, o1, o2, -⟩ := tz_lt hn c (by omega) (by omega)
      obtain ⟨u1, u2, -⟩ := inv_one hn (oddp c) o1 o2
      obtain ⟨v1, v2⟩ := test_signed hn c (by omega) c1
      exact fnSignedTest_main a0 a1 n c (oddp c) b0 b1 hn en ec (by omega) cz hp (by omega) (by rw [IntWalk.i64_left]; exact IntWalk.wrap64_in c ⟨by omega, by omega⟩) t0 t1 t2 (by omega) rfl rfl o1 (by rw [msk_pw hn]; omega) (by rw [msk_pw hn]; omega) u1 u2 v1 v2 w hT
end Go.Proofs.YtdkcmpblfkgckaaDoor
