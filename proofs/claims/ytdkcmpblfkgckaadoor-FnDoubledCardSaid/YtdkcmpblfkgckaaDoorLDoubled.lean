/-
  The walk of FnDoubled.
-/
import Derived.Test.YtdkcmpblfkgckaaDoorSp
import Derived.Test.YtdkcmpblfkgckaaDoorDvT
import Derived.Deep.RegionWith
namespace Go.Proofs.YtdkcmpblfkgckaaDoor
open Go.Dv Go.RowKit
set_option linter.unusedVariables false

set_option maxHeartbeats 1000000 in
theorem fnDoubled_zero (a0 a1 a2 n : Int) (b0 : 0 ≤ a0) (b1 : a0 ≤ 255) (hn : isW n) (en : wid a0 = n) (ec : bits BinOp.and IntKind.u64 a1 (msk n / 2) = 0) (w : World) :
    Calls Tryd.prog 3 #[.int .u8 a0, .int .u64 a1, .int .u64 a2] w fun e w' => e = .returned (.bool true) ∧ Below w.heap.size w w' := by
  go_enter Tryd.func3, Tryd.ntmps3
  go_wp2_with (first | (go_at_call 9; refine (width_any a0 b0 b1 _).mono ?_; rintro e w' ⟨rfl, rfl⟩) | (go_at_call 10; refine (mask_any _ hn _).mono ?_; rintro e w' ⟨rfl, rfl⟩) | (go_at_call 11; refine (power_any _ _).mono ?_; rintro e w' ⟨rfl, rfl⟩))
  go_ret
  exact ⟨rfl, Below.refl _ _⟩

set_option maxHeartbeats 1000000 in
theorem fnDoubled_pow (a0 a1 a2 n c : Int) (b0 : 0 ≤ a0) (b1 : a0 ≤ 255) (hn : isW n) (en : wid a0 = n) (ec : bits BinOp.and IntKind.u64 a1 (msk n / 2) = c) (cz : (c == 0) = false) (cp : powW c = true) (w : World) :
    Calls Tryd.prog 3 #[.int .u8 a0, .int .u64 a1, .int .u64 a2] w fun e w' => e = .returned (.bool true) ∧ Below w.heap.size w w' := by
  go_enter Tryd.func3, Tryd.ntmps3
  go_wp2_with (first | (go_at_call 9; refine (width_any a0 b0 b1 _).mono ?_; rintro e w' ⟨rfl, rfl⟩) | (go_at_call 10; refine (mask_any _ hn _).mono ?_; rintro e w' ⟨rfl, rfl⟩) | (go_at_call 11; refine (power_any _ _).mono ?_; rintro e w' ⟨rfl, rfl⟩))
  go_ret
  exact ⟨rfl, Below.refl _ _⟩

theorem field_M (k m a mx : Int) (w : World) : (Instr.field 29 (.agg #[.int .i64 k, .int .u64 m, .int .u64 a, .int .u64 mx]) 1).run Tryd.prog w = .ok (.int .u64 m) w := by kernel_rfl

set_option maxHeartbeats 4000000 in
theorem fnDoubled_main (a0 a1 a2 n c x d y : Int) (B : Bool) (b0 : 0 ≤ a0) (b1 : a0 ≤ 255) (hn : isW n) (en : wid a0 = n) (ec : bits BinOp.and IntKind.u64 a1 (msk n / 2) = c) (ex : bits BinOp.and IntKind.u64 a2 (msk n / 2) = x)
    (c0 : 0 < c) (cz : (c == 0) = false) (cp : powW c = false) (c2 : c < 9223372036854775808) (ei : IntKind.i64.wrap c = c) (t0 : 0 ≤ tz c) (t1 : tz c < n) (ed : 2 * c = d) (ey : 2 * x = y) (d0 : 0 < d) (d2 : d < 18446744073709551616) (x0 : 0 ≤ x) (x1 : x < 9223372036854775808) (y0 : 0 ≤ y) (y1 : y < 18446744073709551616)
    (s0 : 0 ≤ tz d) (s1 : tz d < n) (cd : Hid (low n c = c)) (dd : Hid (low n (wrap64 d) = d)) (c3 : c < 18446744073709551616) (i0 : 0 < inv n (oddp c)) (h1 : dvB n (tz c) (inv n (oddp c)) (msk n / c) x = B) (h2 : dvB n (tz d) (inv n (oddp d)) (msk n / d) y = B) (w : World) (hT : Tab w) :
    Calls Tryd.prog 3 #[.int .u8 a0, .int .u64 a1, .int .u64 a2] w fun e w' => e = .returned (.bool true) ∧ Below w.heap.size w w' := by
  go_enter Tryd.func3, Tryd.ntmps3
  go_wp2_with (first | (go_at_call 9; refine (width_any a0 b0 b1 _).mono ?_; rintro e w' ⟨rfl, rfl⟩) | (go_at_call 10; refine (mask_any _ hn _).mono ?_; rintro e w' ⟨rfl, rfl⟩) | (go_at_call 11; refine (power_any _ _).mono ?_; rintro e w' ⟨rfl, rfl⟩))
  have hf := field_M
  refine (udivisible_any n c c hn c0 c3 cd.out _ hT).mono ?_
  rintro e w1 ⟨rfl, hb1⟩
  have hT1 := hT.below hb1
  go_wp2_with fail
  refine (divides_any n _ _ _ _ _ hn t0 t1 _).mono ?_
  rintro e w2 ⟨rfl, hb2⟩
  have hT2 := hT1.below hb2
  go_wp2_with fail
  refine (udivisible_any n _ d hn d0 d2 dd.out _ hT2).mono ?_
  rintro e w3 ⟨rfl, hb3⟩
  have hT3 := hT2.below hb3
  go_wp2_with fail
  refine (divides_any n _ _ _ _ _ hn s0 s1 _).mono ?_
  rintro e w4 ⟨rfl, hb4⟩
  have hT4 := hT3.below hb4
  go_wp2_with fail
  refine (udivisible_any n c c hn c0 c3 cd.out _ hT4).mono ?_
  rintro e w5 ⟨rfl, hb5⟩
  go_wp2_with fail
  go_ret
  exact ⟨rfl, ((((hb1.trans (hb2.mono hb1.size)).trans (hb3.mono (Nat.le_trans hb1.size hb2.size))).trans (hb4.mono (Nat.le_trans (Nat.le_trans hb1.size hb2.size) hb3.size)))).trans (hb5.mono (Nat.le_trans (Nat.le_trans (Nat.le_trans hb1.size hb2.size) hb3.size) hb4.size))⟩

theorem fnDoubled_walk (a0 a1 a2 : Int) (w0 : (Lit.int .u8 a0).wf = true) (w1 : (Lit.int .u64 a1).wf = true) (w2 : (Lit.int .u64 a2).wf = true) (w : World) (hT : Tab w) :
    Calls Tryd.prog 3 #[.int .u8 a0, .int .u64 a1, .int .u64 a2] w fun e w' => e = .returned (.bool true) ∧ Below w.heap.size w w' := by
  obtain ⟨b0, b1⟩ := bounds_u8 w0
  obtain ⟨b2, b3⟩ := bounds_u64 w1
  obtain ⟨b4, b5⟩ := bounds_u64 w2
  have hn := isW_wid a0 b0 b1
  obtain ⟨n, en⟩ : ∃ n, wid a0 = n := ⟨_, rfl⟩
  rw [en] at hn
  obtain ⟨p0, p1, p2⟩ := pw_pos hn
  obtain ⟨c, ec⟩ : ∃ c, bits BinOp.and IntKind.u64 a1 (msk n / 2) = c := ⟨_, rfl⟩
  obtain ⟨c0, c1⟩ := half_range hn a1 b2 b3
  rw [ec] at c0 c1
  by_cases hz : c = 0
  · subst hz
    exact fnDoubled_zero a0 a1 a2 n b0 b1 hn en ec w
  · have cz : (c == 0) = false := by simpa using hz
    cases hp : powW c with
    | true => exact fnDoubled_pow a0 a1 a2 n c b0 b1 hn en ec cz hp w
    | false =>
      obtain ⟨t0, t1, -⟩ := tz_lt hn c (by omega) (by omega)
      obtain ⟨l1, l2⟩ := low_wrap hn c c0 (by omega)
      obtain ⟨x0, x1⟩ := half_range hn a2 b4 b5
      obtain ⟨k0, k1, -, -, -, o1, o2, -⟩ := tz_lt hn c (by omega) (by omega)
      obtain ⟨s0, s1, -⟩ := tz_lt hn (2 * c) (by omega) (by omega)
      obtain ⟨-, m2⟩ := low_wrap hn (2 * c) (by omega) (by omega)
      obtain ⟨-, -, i0⟩ := inv_one hn (oddp c) o1 o2
      have hl : low n c = c := by rw [← IntWalk.wrap64_in c ⟨by omega, by omega⟩]; rw [l2]; exact (IntWalk.wrap64_in c ⟨by omega, by omega⟩).symm
      exact fnDoubled_main a0 a1 a2 n c _ _ _ _ b0 b1 hn en ec rfl (by omega) cz hp (by omega) (by rw [IntWalk.i64_left]; exact IntWalk.wrap64_in c ⟨by omega, by omega⟩) t0 t1 rfl rfl (by omega) (by omega) x0 (by omega) (by omega) (by omega) s0 s1 hl m2 (by omega) i0 rfl (doubled hn c _ (by omega) c1 x0 x1) w hT
end Go.Proofs.YtdkcmpblfkgckaaDoor
