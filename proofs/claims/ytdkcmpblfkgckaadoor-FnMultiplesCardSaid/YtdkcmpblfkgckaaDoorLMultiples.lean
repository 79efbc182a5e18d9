/-
  The walk of FnMultiples.
-/
import Derived.Test.YtdkcmpblfkgckaaDoorSp
import Derived.Test.YtdkcmpblfkgckaaDoorDvT
import Derived.Deep.RegionWith
namespace Go.Proofs.YtdkcmpblfkgckaaDoor
open Go.Dv Go.RowKit
set_option linter.unusedVariables false

set_option maxHeartbeats 1000000 in
theorem fnMultiples_zero (a0 a1 a2 n : Int) (b0 : 0 ≤ a0) (b1 : a0 ≤ 255) (hn : isW n) (en : wid a0 = n) (ec : bits BinOp.and IntKind.u64 a1 (msk n) = 0) (w : World) :
    Calls Tryd.prog 4 #[.int .u8 a0, .int .u64 a1, .int .u64 a2] w fun e w' => e = .returned (.bool true) ∧ Below w.heap.size w w' := by
  go_enter Tryd.func4, Tryd.ntmps4
  go_wp2_with (first | (go_at_call 9; refine (width_any a0 b0 b1 _).mono ?_; rintro e w' ⟨rfl, rfl⟩) | (go_at_call 10; refine (mask_any _ hn _).mono ?_; rintro e w' ⟨rfl, rfl⟩) | (go_at_call 11; refine (power_any _ _).mono ?_; rintro e w' ⟨rfl, rfl⟩))
  go_ret
  exact ⟨rfl, Below.refl _ _⟩

set_option maxHeartbeats 1000000 in
theorem fnMultiples_pow (a0 a1 a2 n c : Int) (b0 : 0 ≤ a0) (b1 : a0 ≤ 255) (hn : isW n) (en : wid a0 = n) (ec : bits BinOp.and IntKind.u64 a1 (msk n) = c) (cz : (c == 0) = false) (cp : powW c = true) (w : World) :
    Calls Tryd.prog 4 #[.int .u8 a0, .int .u64 a1, .int .u64 a2] w fun e w' => e = .returned (.bool true) ∧ Below w.heap.size w w' := by
  go_enter Tryd.func4, Tryd.ntmps4
  go_wp2_with (first | (go_at_call 9; refine (width_any a0 b0 b1 _).mono ?_; rintro e w' ⟨rfl, rfl⟩) | (go_at_call 10; refine (mask_any _ hn _).mono ?_; rintro e w' ⟨rfl, rfl⟩) | (go_at_call 11; refine (power_any _ _).mono ?_; rintro e w' ⟨rfl, rfl⟩))
  go_ret
  exact ⟨rfl, Below.refl _ _⟩

set_option maxHeartbeats 2000000 in
theorem fnMultiples_main_eq (a0 a1 a2 n c k p q : Int) (b0 : 0 ≤ a0) (b1 : a0 ≤ 255) (b4 : 0 ≤ a2) (hn : isW n) (en : wid a0 = n) (ec : bits BinOp.and IntKind.u64 a1 (msk n) = c)
    (c0 : 0 < c) (cz : (c == 0) = false) (cp : powW c = false) (c2 : c < 18446744073709551616) (cd : Hid (low n (IntKind.i64.wrap c) = c)) (cd2 : Hid (low n (wrap64 c) = c)) (t0 : 0 ≤ tz c) (t1 : tz c < n)
    (m0 : 0 ≤ msk n) (m1 : msk n ≤ 18446744073709551615) (eq : msk n / c + 1 = q) (q0 : 0 < q) (q1 : q ≤ 18446744073709551615) (ek : a2 % q = k) (ep : IntKind.u64.wrap (k * c) = p) (p0 : 0 ≤ p) (p1 : p ≤ 18446744073709551615)
    (h1 : dvB n (tz c) (inv n (oddp c)) (msk n / c) p = true) (pe : (p == msk n) = true) (w : World) (hT : Tab w) :
    Calls Tryd.prog 4 #[.int .u8 a0, .int .u64 a1, .int .u64 a2] w fun e w' => e = .returned (.bool true) ∧ Below w.heap.size w w' := by
  go_enter Tryd.func4, Tryd.ntmps4
  go_wp2_with (first | (go_at_call 9; refine (width_any a0 b0 b1 _).mono ?_; rintro e w' ⟨rfl, rfl⟩) | (go_at_call 10; refine (mask_any _ hn _).mono ?_; rintro e w' ⟨rfl, rfl⟩) | (go_at_call 11; refine (power_any _ _).mono ?_; rintro e w' ⟨rfl, rfl⟩) | (go_at_call 13; refine (udivisible_any n _ c hn c0 c2 ?_ _ ?_).mono ?_; (first | exact cd.out | exact cd2.out); (first | exact hT | exact hT.drew); rintro e w1 ⟨rfl, hb1⟩) | (go_at_call_of 12 p; refine (divides_any n _ _ _ _ _ hn t0 t1 _).mono ?_; rintro e w2 ⟨rfl, hb2⟩; obtain ⟨g0, g1, g2, g3⟩ := cells4 hb2))
  go_ret
  exact ⟨rfl, ((hb1.alloc hb1.size _).trans (hb2.mono (Nat.le_trans hb1.size (by simp))))⟩

set_option maxHeartbeats 2000000 in
theorem fnMultiples_main_ne (a0 a1 a2 n c k p q : Int) (b0 : 0 ≤ a0) (b1 : a0 ≤ 255) (b4 : 0 ≤ a2) (hn : isW n) (en : wid a0 = n) (ec : bits BinOp.and IntKind.u64 a1 (msk n) = c)
    (c0 : 0 < c) (cz : (c == 0) = false) (cp : powW c = false) (c2 : c < 18446744073709551616) (cd : Hid (low n (IntKind.i64.wrap c) = c)) (cd2 : Hid (low n (wrap64 c) = c)) (t0 : 0 ≤ tz c) (t1 : tz c < n)
    (m0 : 0 ≤ msk n) (m1 : msk n ≤ 18446744073709551615) (eq : msk n / c + 1 = q) (q0 : 0 < q) (q1 : q ≤ 18446744073709551615) (ek : a2 % q = k) (ep : IntKind.u64.wrap (k * c) = p) (p0 : 0 ≤ p) (p1 : p ≤ 18446744073709551615)
    (h1 : dvB n (tz c) (inv n (oddp c)) (msk n / c) p = true) (pe : (p == msk n) = false) (pp : Int) (e2 : p + 1 = pp) (pp0 : 0 ≤ pp) (p2 : pp ≤ 18446744073709551615) (h2 : dvB n (tz c) (inv n (oddp c)) (msk n / c) pp = false) (w : World) (hT : Tab w) :
    Calls Tryd.prog 4 #[.int .u8 a0, .int .u64 a1, .int .u64 a2] w fun e w' => e = .returned (.bool true) ∧ Below w.heap.size w w' := by
  go_enter Tryd.func4, Tryd.ntmps4
  go_wp2_with (first | (go_at_call 9; refine (width_any a0 b0 b1 _).mono ?_; rintro e w' ⟨rfl, rfl⟩) | (go_at_call 10; refine (mask_any _ hn _).mono ?_; rintro e w' ⟨rfl, rfl⟩) | (go_at_call 11; refine (power_any _ _).mono ?_; rintro e w' ⟨rfl, rfl⟩) | (go_at_call 13; refine (udivisible_any n _ c hn c0 c2 ?_ _ ?_).mono ?_; (first | exact cd.out | exact cd2.out); (first | exact hT | exact hT.drew); rintro e w1 ⟨rfl, hb1⟩) | (go_at_call_of 12 p; refine (divides_any n _ _ _ _ _ hn t0 t1 _).mono ?_; rintro e w2 ⟨rfl, hb2⟩; obtain ⟨g0, g1, g2, g3⟩ := cells4 hb2) | (go_at_call_of 12 pp; refine (divides_any n _ _ _ _ _ hn t0 t1 _).mono ?_; rintro e w3 ⟨rfl, hb3⟩))
  go_ret
  exact ⟨rfl, ((hb1.alloc hb1.size _).trans (hb2.mono (Nat.le_trans hb1.size (by simp)))).trans (hb3.mono (Nat.le_trans (Nat.le_trans hb1.size (by simp)) hb2.size))⟩


theorem fnMultiples_walk (a0 a1 a2 : Int) (w0 : (Lit.int .u8 a0).wf = true) (w1 : (Lit.int .u64 a1).wf = true) (w2 : (Lit.int .u64 a2).wf = true) (w : World) (hT : Tab w) :
    Calls Tryd.prog 4 #[.int .u8 a0, .int .u64 a1, .int .u64 a2] w fun e w' => e = .returned (.bool true) ∧ Below w.heap.size w w' := by
  obtain ⟨b0, b1⟩ := bounds_u8 w0
  obtain ⟨b2, b3⟩ := bounds_u64 w1
  obtain ⟨b4, b5⟩ := bounds_u64 w2
  have hn := isW_wid a0 b0 b1
  obtain ⟨n, en⟩ : ∃ n, wid a0 = n := ⟨_, rfl⟩
  rw [en] at hn
  obtain ⟨p0, p1, p2⟩ := pw_pos hn
  obtain ⟨c, ec⟩ : ∃ c, bits BinOp.and IntKind.u64 a1 (msk n) = c := ⟨_, rfl⟩
  obtain ⟨c0, c1, -⟩ := cut_range hn a1 b2 b3
  rw [ec] at c0 c1
  by_cases hz : c = 0
  · subst hz
    exact fnMultiples_zero a0 a1 a2 n b0 b1 hn en ec w
  · have cz : (c == 0) = false := by simpa using hz
    cases hp : powW c with
    | true => exact fnMultiples_pow a0 a1 a2 n c b0 b1 hn en ec cz hp w
    | false =>
      obtain ⟨t0, t1, -⟩ := tz_lt hn c (by omega) c1
      obtain ⟨l1, l2⟩ := low_wrap hn c c0 c1
      obtain ⟨r0, r1, r2, r3, r4, r5, r6, r7⟩ := multiples hn c a2 (by omega) c1 (not_pow c (by omega) (by omega) hp) b4
      cases pe : (IntKind.u64.wrap (a2 % (msk n / c + 1) * c) == msk n) with
      | true => exact fnMultiples_main_eq a0 a1 a2 n c _ _ _ b0 b1 b4 hn en ec (by omega) cz hp (by omega) l1 l2 t0 t1 (by rw [msk_pw hn]; omega) (by rw [msk_pw hn]; omega) rfl r0 r1 rfl rfl r2 r3 r4 pe w hT
      | false => exact fnMultiples_main_ne a0 a1 a2 n c _ _ _ b0 b1 b4 hn en ec (by omega) cz hp (by omega) l1 l2 t0 t1 (by rw [msk_pw hn]; omega) (by rw [msk_pw hn]; omega) rfl r0 r1 rfl rfl r2 r3 r4 pe _ rfl r5 (r6 pe) (r7 pe) w hT
end Go.Proofs.YtdkcmpblfkgckaaDoor
