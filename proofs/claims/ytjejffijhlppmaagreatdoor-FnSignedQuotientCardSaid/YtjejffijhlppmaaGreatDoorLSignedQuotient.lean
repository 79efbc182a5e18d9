/-
  The walk of FnSignedQuotient.
-/
import Derived.Test.YtjejffijhlppmaaGreatDoorNm
import Derived.Test.YtjejffijhlppmaaGreatDoorDvT
import Derived.Deep.RegionWith
import Derived.Deep.RegionHeld3
namespace Go.Proofs.YtjejffijhlppmaaGreatDoor
open Go.Dv Go.RowKit
set_option linter.unusedVariables false

set_option maxHeartbeats 1000000 in
theorem fnSignedQuotient_zero (a0 a1 a2 n : Int) (b0 : 0 ≤ a0) (b1 : a0 ≤ 255) (hn : isW n) (en : wid a0 = n) (ec : bits BinOp.and IntKind.u64 a1 (msk n / 2) = 0) (w : World) :
    Calls Tryz.prog 7 #[.int .u8 a0, .int .u64 a1, .int .u64 a2] w fun e w' => e = .returned (.bool true) ∧ Below w.heap.size w w' := by
  go_enter Tryz.func7, Tryz.ntmps7
  go_wp2_with (first | (go_at_call 14; refine (width_any a0 b0 b1 _).mono ?_; rintro e w' ⟨rfl, rfl⟩) | (go_at_call 15; refine (mask_any _ hn _).mono ?_; rintro e w' ⟨rfl, rfl⟩) | (go_at_call 16; refine (power_any _ _).mono ?_; rintro e w' ⟨rfl, rfl⟩) | (go_at_call 30; refine (signed_any _ _ hn _).mono ?_; rintro e w' ⟨rfl, rfl⟩))
  go_ret
  exact ⟨rfl, Below.refl _ _⟩

set_option maxHeartbeats 1000000 in
theorem fnSignedQuotient_pow (a0 a1 a2 n c : Int) (b0 : 0 ≤ a0) (b1 : a0 ≤ 255) (hn : isW n) (en : wid a0 = n) (ec : bits BinOp.and IntKind.u64 a1 (msk n / 2) = c) (cz : (c == 0) = false) (cp : powW c = true) (w : World) :
    Calls Tryz.prog 7 #[.int .u8 a0, .int .u64 a1, .int .u64 a2] w fun e w' => e = .returned (.bool true) ∧ Below w.heap.size w w' := by
  go_enter Tryz.func7, Tryz.ntmps7
  go_wp2_with (first | (go_at_call 14; refine (width_any a0 b0 b1 _).mono ?_; rintro e w' ⟨rfl, rfl⟩) | (go_at_call 15; refine (mask_any _ hn _).mono ?_; rintro e w' ⟨rfl, rfl⟩) | (go_at_call 16; refine (power_any _ _).mono ?_; rintro e w' ⟨rfl, rfl⟩) | (go_at_call 30; refine (signed_any _ _ hn _).mono ?_; rintro e w' ⟨rfl, rfl⟩))
  go_ret
  exact ⟨rfl, Below.refl _ _⟩

set_option maxRecDepth 100000 in
set_option maxHeartbeats 4000000 in
theorem fnSignedQuotient_main (a0 a1 a2 n c x y q : Int) (b0 : 0 ≤ a0) (b1 : a0 ≤ 255) (hn : isW n) (en : wid a0 = n) (ec : bits BinOp.and IntKind.u64 a1 (msk n / 2) = c) (ex : sgn n a2 = x)
    (hc : Cs n c) (cz : (c == 0) = false) (cp : powW c = false) (ei : IntKind.i64.wrap c = c) (ei2 : wrap64 c = c) (x0 : -(pw n / 2) ≤ x) (x1 : x < pw n / 2) (s0 : -9223372036854775808 ≤ x) (s1 : x < 9223372036854775808) (hy : Hid (siz x = y)) (hq : Hid (y / c = q)) (eq : y / c = q) (y0 : 0 ≤ y) (y1 : y ≤ 9223372036854775808) (c0 : 0 < c) (q0 : 0 ≤ q) (q1 : q < 18446744073709551616) (h0 : Hid (cmpI q q = 0)) (w : World) :
    Calls Tryz.prog 7 #[.int .u8 a0, .int .u64 a1, .int .u64 a2] w fun e w' => e = .returned (.bool true) ∧ Below w.heap.size w w' := by
  go_enter Tryz.func7, Tryz.ntmps7
  go_wp2_with (first | (go_at_call 14; refine (width_any a0 b0 b1 _).mono ?_; rintro e w' ⟨rfl, rfl⟩) | (go_at_call 15; refine (mask_any _ hn _).mono ?_; rintro e w' ⟨rfl, rfl⟩) | (go_at_call 16; refine (power_any _ _).mono ?_; rintro e w' ⟨rfl, rfl⟩) | (go_at_call 30; refine (signed_any _ _ hn _).mono ?_; rintro e w' ⟨rfl, rfl⟩))
  have H0 := Below.refl w.heap.size w
  refine (smagicQ hc _).mono ?_
  rintro e w1 ⟨rfl, hb1⟩
  have H1 := H0.trans (hb1.mono H0.size)
  go_wp2_with fail
  refine (quotientQ hc x y q x0 x1 hy hq _).mono ?_
  rintro e w2 ⟨v1, rfl, nv_v1, hb2⟩
  have H2 := H1.trans (hb2.mono H1.size)
  go_wp2_with fail
  refine (sizeQ x y hy s0 s1 _).mono ?_
  rintro e w' ⟨rfl, rfl⟩
  go_wp2_with fail
  refine (natOf_any q q0 q1 _).mono ?_
  rintro e w3 ⟨v2, rfl, nv_v2, hb3⟩
  have H3 := H2.trans (hb3.mono H2.size)
  go_wp2_with fail
  refine (cmpQ _ _ 15 2 q q 0 h0 (by omega) (by omega) _ (nv_v1.below hb3) nv_v2).mono ?_
  rintro e w' ⟨rfl, rfl⟩
  go_wp2_with fail
  go_ret
  exact ⟨rfl, H3⟩

theorem fnSignedQuotient_walk (a0 a1 a2 : Int) (w0 : (Lit.int .u8 a0).wf = true) (w1 : (Lit.int .u64 a1).wf = true) (w2 : (Lit.int .u64 a2).wf = true) (w : World) :
    Calls Tryz.prog 7 #[.int .u8 a0, .int .u64 a1, .int .u64 a2] w fun e w' => e = .returned (.bool true) ∧ Below w.heap.size w w' := by
  obtain ⟨b0, b1⟩ := bounds_u8 w0
  obtain ⟨b2, b3⟩ := bounds_u64 w1
  obtain ⟨b4, b5⟩ := bounds_u64 w2
  have hn := isW_wid a0 b0 b1
  obtain ⟨n, en⟩ : ∃ n, wid a0 = n := ⟨_, rfl⟩
  rw [en] at hn
  obtain ⟨p0, p1, p2⟩ := pw_pos hn
  obtain ⟨c, ec⟩ : ∃ c, bits BinOp.and IntKind.u64 a1 (msk n / 2) = c := ⟨_, rfl⟩
  obtain ⟨c0, c1⟩ := half_range hn a1 b2 b3
  rw [ec] at c0 c1
  by_cases hz : c = 0
  · subst hz
    exact fnSignedQuotient_zero a0 a1 a2 n b0 b1 hn en ec w
  · have cz : (c == 0) = false := by simpa using hz
    cases hp : powW c with
    | true => exact fnSignedQuotient_pow a0 a1 a2 n c b0 b1 hn en ec cz hp w
    | false =>
      obtain ⟨t0, t1, -⟩ := tz_lt hn c (by omega) (by omega)
      obtain ⟨l1, l2⟩ := low_wrap hn c c0 (by omega)
      obtain ⟨x0, x1, -⟩ := sgn_range hn a2
      have zr := siz_range (sgn n a2) (by omega) (by omega)
      have qr := quo_range (siz (sgn n a2)) c zr.1 (by omega)
      exact fnSignedQuotient_main a0 a1 a2 n c _ _ _ b0 b1 hn en ec rfl ⟨hn, by omega, c1, not_pow c (by omega) (by omega) hp⟩ cz hp (by rw [IntWalk.i64_left]; exact IntWalk.wrap64_in c ⟨by omega, by omega⟩) (IntWalk.wrap64_in c ⟨by omega, by omega⟩) x0 x1 (by omega) (by omega) (Lib.hid rfl) (Lib.hid rfl) rfl zr.1 zr.2 (by omega) qr.1 (by omega) (Lib.hid (cmpI_eq rfl)) w
end Go.Proofs.YtjejffijhlppmaaGreatDoor
