/-
  The walk of FnSignedDivides.
-/
import Derived.Test.YtdkcmpblfkgckaaDoorSp
import Derived.Test.YtdkcmpblfkgckaaDoorDvT
import Derived.Deep.RegionWith
namespace Go.Proofs.YtdkcmpblfkgckaaDoor
open Go.Dv Go.RowKit
set_option linter.unusedVariables false

set_option maxHeartbeats 1000000 in
theorem fnSignedDivides_zero (a0 a1 a2 n : Int) (b0 : 0 ≤ a0) (b1 : a0 ≤ 255) (hn : isW n) (en : wid a0 = n) (ec : bits BinOp.and IntKind.u64 a1 (msk n / 2) = 0) (w : World) :
    Calls Tryd.prog 5 #[.int .u8 a0, .int .u64 a1, .int .u64 a2] w fun e w' => e = .returned (.bool true) ∧ Below w.heap.size w w' := by
  go_enter Tryd.func5, Tryd.ntmps5
  go_wp2_with (first | (go_at_call 9; refine (width_any a0 b0 b1 _).mono ?_; rintro e w' ⟨rfl, rfl⟩) | (go_at_call 10; refine (mask_any _ hn _).mono ?_; rintro e w' ⟨rfl, rfl⟩) | (go_at_call 11; refine (power_any _ _).mono ?_; rintro e w' ⟨rfl, rfl⟩) | (go_at_call 14; refine (signed_any _ _ hn _).mono ?_; rintro e w' ⟨rfl, rfl⟩))
  go_ret
  exact ⟨rfl, Below.refl _ _⟩

set_option maxHeartbeats 1000000 in
theorem fnSignedDivides_pow (a0 a1 a2 n c : Int) (b0 : 0 ≤ a0) (b1 : a0 ≤ 255) (hn : isW n) (en : wid a0 = n) (ec : bits BinOp.and IntKind.u64 a1 (msk n / 2) = c) (cz : (c == 0) = false) (cp : powW c = true) (w : World) :
    Calls Tryd.prog 5 #[.int .u8 a0, .int .u64 a1, .int .u64 a2] w fun e w' => e = .returned (.bool true) ∧ Below w.heap.size w w' := by
  go_enter Tryd.func5, Tryd.ntmps5
  go_wp2_with (first | (go_at_call 9; refine (width_any a0 b0 b1 _).mono ?_; rintro e w' ⟨rfl, rfl⟩) | (go_at_call 10; refine (mask_any _ hn _).mono ?_; rintro e w' ⟨rfl, rfl⟩) | (go_at_call 11; refine (power_any _ _).mono ?_; rintro e w' ⟨rfl, rfl⟩) | (go_at_call 14; refine (signed_any _ _ hn _).mono ?_; rintro e w' ⟨rfl, rfl⟩))
  go_ret
  exact ⟨rfl, Below.refl _ _⟩

set_option maxHeartbeats 1000000 in
theorem fnSignedDivides_main (a0 a1 a2 n c x : Int) (b0 : 0 ≤ a0) (b1 : a0 ≤ 255) (hn : isW n) (en : wid a0 = n) (ec : bits BinOp.and IntKind.u64 a1 (msk n / 2) = c) (ex : sgn n a2 = x)
    (c0 : 0 < c) (cz : (c == 0) = false) (cp : powW c = false) (c2 : c < 9223372036854775808) (ei : IntKind.i64.wrap c = c) (t0 : 0 ≤ tz c) (t1 : tz c < n)
    (s0 : -9223372036854775808 ≤ x) (s1 : x < 9223372036854775808) (z0 : 0 ≤ siz x) (z1 : siz x ≤ 9223372036854775808) (H : Hid (dsB n (tz c) (inv n (oddp c)) (sdA n c) (sdM n c) x = (siz x % c == 0))) (w : World) (hT : Tab w) :
    Calls Tryd.prog 5 #[.int .u8 a0, .int .u64 a1, .int .u64 a2] w fun e w' => e = .returned (.bool true) ∧ Below w.heap.size w w' := by
  go_enter Tryd.func5, Tryd.ntmps5
  go_wp2_with (first | (go_at_call 9; refine (width_any a0 b0 b1 _).mono ?_; rintro e w' ⟨rfl, rfl⟩) | (go_at_call 10; refine (mask_any _ hn _).mono ?_; rintro e w' ⟨rfl, rfl⟩) | (go_at_call 11; refine (power_any _ _).mono ?_; rintro e w' ⟨rfl, rfl⟩) | (go_at_call 14; refine (signed_any _ _ hn _).mono ?_; rintro e w' ⟨rfl, rfl⟩) | (go_at_call 16; refine (sdivisible_any n c hn c0 c2 _ ?_).mono ?_; (first | exact hT | exact hT.drew); rintro e w1 ⟨rfl, hb1⟩) | (go_at_call 15; refine (dividesSigned_any n _ _ _ _ _ hn t0 t1 _).mono ?_; rintro e w2 ⟨rfl, hb2⟩) | (go_at_call 17; refine (size_any x s0 s1 _).mono ?_; rintro e w' ⟨rfl, rfl⟩))
  go_ret
  exact ⟨ret_bool (eq_tt H.out), ((Below.refl w.heap.size w).trans hb1).trans (hb2.mono hb1.size)⟩

theorem fnSignedDivides_walk (a0 a1 a2 : Int) (w0 : (Lit.int .u8 a0).wf = true) (w1 : (Lit.int .u64 a1).wf = true) (w2 : (Lit.int .u64 a2).wf = true) (w : World) (hT : Tab w) :
    Calls Tryd.prog 5 #[.int .u8 a0, .int .u64 a1, .int .u64 a2] w fun e w' => e = .returned (.bool true) ∧ Below w.heap.size w w' := by
  obtain ⟨b0, b1⟩ := bounds_u8 w0
  obtain ⟨b2, b3⟩ := bounds_u64 w1
  obtain ⟨b4, b5⟩ := bounds_u64 w2
  have hn := isW_wid a0 b0 b1
  obtain ⟨n, en⟩ : ∃ n, wid a0 = n := ⟨_, rfl⟩
  rw [en] at hn
  obtain ⟨p0, p1, p2⟩ := pw_pos hn
  obtain ⟨c, ec⟩ : ∃ c, bits BinOp.and IntKind.u64 a1 (msk n / 2) = c := ⟨_, rfl⟩
  obtain ⟨c0, c1⟩ := half_range hn a1 b2 b3
  rw [ec] at c0 c1
  by_cases hz : c = 0
  · subst hz
    exact fnSignedDivides_zero a0 a1 a2 n b0 b1 hn en ec w
  · have cz : (c == 0) = false := by simpa using hz
    cases hp : powW c with
    | true => exact fnSignedDivides_pow a0 a1 a2 n c b0 b1 hn en ec cz hp w
    | false =>
      obtain ⟨t0, t1, -⟩ := tz_lt hn c (by omega) (by omega)
      obtain ⟨l1, l2⟩ := low_wrap hn c c0 (by omega)
      obtain ⟨x0, x1, -⟩ := sgn_range hn a2
      exact fnSignedDivides_main a0 a1 a2 n c _ b0 b1 hn en ec rfl (by omega) cz hp (by omega) (by rw [IntWalk.i64_left]; exact IntWalk.wrap64_in c ⟨by omega, by omega⟩) t0 t1 (by omega) (by omega) (siz_range _ (by omega) (by omega)).1 (siz_range _ (by omega) (by omega)).2
        (sdiv_law hn c _ (by omega) c1 (not_pow c (by omega) (by omega) hp) x0 x1) w hT
end Go.Proofs.YtdkcmpblfkgckaaDoor
