/-
  The walk of FnUnsignedQuotient.
-/
import Derived.Test.YtjejffijhlppmaaGreatDoorNm
import Derived.Test.YtjejffijhlppmaaGreatDoorDvT
import Derived.Deep.RegionWith
import Derived.Deep.RegionHeld3
namespace Go.Proofs.YtjejffijhlppmaaGreatDoor
open Go.Dv Go.RowKit
set_option linter.unusedVariables false

set_option maxHeartbeats 1000000 in
theorem fnUnsignedQuotient_zero (a0 a1 a2 n : Int) (b0 : 0 ≤ a0) (b1 : a0 ≤ 255) (hn : isW n) (en : wid a0 = n) (ec : bits BinOp.and IntKind.u64 a1 (msk n) = 0) (w : World) :
    Calls Tryz.prog 11 #[.int .u8 a0, .int .u64 a1, .int .u64 a2] w fun e w' => e = .returned (.bool true) ∧ Below w.heap.size w w' := by
  go_enter Tryz.func11, Tryz.ntmps11
  go_wp2_with (first | (go_at_call 14; refine (width_any a0 b0 b1 _).mono ?_; rintro e w' ⟨rfl, rfl⟩) | (go_at_call 15; refine (mask_any _ hn _).mono ?_; rintro e w' ⟨rfl, rfl⟩) | (go_at_call 16; refine (power_any _ _).mono ?_; rintro e w' ⟨rfl, rfl⟩))
  go_ret
  exact ⟨rfl, Below.refl _ _⟩

set_option maxHeartbeats 1000000 in
theorem fnUnsignedQuotient_pow (a0 a1 a2 n c : Int) (b0 : 0 ≤ a0) (b1 : a0 ≤ 255) (hn : isW n) (en : wid a0 = n) (ec : bits BinOp.and IntKind.u64 a1 (msk n) = c) (cz : (c == 0) = false) (cp : powW c = true) (w : World) :
    Calls Tryz.prog 11 #[.int .u8 a0, .int .u64 a1, .int .u64 a2] w fun e w' => e = .returned (.bool true) ∧ Below w.heap.size w w' := by
  go_enter Tryz.func11, Tryz.ntmps11
  go_wp2_with (first | (go_at_call 14; refine (width_any a0 b0 b1 _).mono ?_; rintro e w' ⟨rfl, rfl⟩) | (go_at_call 15; refine (mask_any _ hn _).mono ?_; rintro e w' ⟨rfl, rfl⟩) | (go_at_call 16; refine (power_any _ _).mono ?_; rintro e w' ⟨rfl, rfl⟩))
  go_ret
  exact ⟨rfl, Below.refl _ _⟩

set_option maxRecDepth 100000 in
set_option maxHeartbeats 4000000 in
theorem fnUnsignedQuotient_main (a0 a1 a2 n c x q : Int) (b0 : 0 ≤ a0) (b1 : a0 ≤ 255) (hn : isW n) (en : wid a0 = n) (ec : bits BinOp.and IntKind.u64 a1 (msk n) = c) (ex : bits BinOp.and IntKind.u64 a2 (msk n) = x)
    (hc : Cu n c) (cz : (c == 0) = false) (cp : powW c = false) (cd : Hid (low n (IntKind.i64.wrap c) = c)) (cd2 : Hid (low n (wrap64 c) = c)) (c0 : 0 < c) (x0 : 0 ≤ x) (x1 : x < pw n) (x2 : x < 18446744073709551616) (hq : Hid (x / c = q)) (eq : x / c = q) (et : x.tdiv c = q) (ew : IntKind.u64.wrap q = q) (cne : c ≠ 0) (q0 : 0 ≤ q) (q1 : q < 18446744073709551616) (h0 : Hid (cmpI q q = 0)) (w : World) :
    Calls Tryz.prog 11 #[.int .u8 a0, .int .u64 a1, .int .u64 a2] w fun e w' => e = .returned (.bool true) ∧ Below w.heap.size w w' := by
  go_enter Tryz.func11, Tryz.ntmps11
  go_wp2_with (first | (go_at_call 14; refine (width_any a0 b0 b1 _).mono ?_; rintro e w' ⟨rfl, rfl⟩) | (go_at_call 15; refine (mask_any _ hn _).mono ?_; rintro e w' ⟨rfl, rfl⟩) | (go_at_call 16; refine (power_any _ _).mono ?_; rintro e w' ⟨rfl, rfl⟩))
  go_region_held3 (fun W => True) (first | go_keep | trivial) (first
    | (go_at_call 19; refine (umagicQ hc _ (by first | exact cd.out | exact cd2.out) _).mono ?_; rintro e w1 ⟨rfl, hb1⟩)
    | (go_at_call 18; refine (unsignedQ hc x q x0 x1 hq _).mono ?_; rintro e w2 ⟨v2, rfl, nv2, hb2⟩)
    | (go_at_call 22; refine (natOf_any q q0 q1 _).mono ?_; rintro e w3 ⟨v3, rfl, nv3, hb3⟩)
    | (go_at_call 17; refine (cmpQ _ _ 15 2 q q 0 h0 (by omega) (by omega) _ (nv2.below hb3) nv3).mono ?_; rintro e w' ⟨rfl, rfl⟩))
  all_goals go_wp2
  all_goals go_ret
  all_goals exact ⟨rfl, (((Below.refl w.heap.size w).drew.trans hb1).trans (hb2.mono hb1.size)).trans (hb3.mono (Nat.le_trans hb1.size hb2.size))⟩

theorem fnUnsignedQuotient_walk (a0 a1 a2 : Int) (w0 : (Lit.int .u8 a0).wf = true) (w1 : (Lit.int .u64 a1).wf = true) (w2 : (Lit.int .u64 a2).wf = true) (w : World) :
    Calls Tryz.prog 11 #[.int .u8 a0, .int .u64 a1, .int .u64 a2] w fun e w' => e = .returned (.bool true) ∧ Below w.heap.size w w' := by
  obtain ⟨b0, b1⟩ := bounds_u8 w0
  obtain ⟨b2, b3⟩ := bounds_u64 w1
  obtain ⟨b4, b5⟩ := bounds_u64 w2
  have hn := isW_wid a0 b0 b1
  obtain ⟨n, en⟩ : ∃ n, wid a0 = n := ⟨_, rfl⟩
  rw [en] at hn
  obtain ⟨p0, p1, p2⟩ := pw_pos hn
  obtain ⟨c, ec⟩ : ∃ c, bits BinOp.and IntKind.u64 a1 (msk n) = c := ⟨_, rfl⟩
  obtain ⟨c0, c1, -⟩ := cut_range hn a1 b2 b3
  rw [ec] at c0 c1
  by_cases hz : c = 0
  · subst hz
    exact fnUnsignedQuotient_zero a0 a1 a2 n b0 b1 hn en ec w
  · have cz : (c == 0) = false := by simpa using hz
    cases hp : powW c with
    | true => exact fnUnsignedQuotient_pow a0 a1 a2 n c b0 b1 hn en ec cz hp w
    | false =>
      obtain ⟨t0, t1, -⟩ := tz_lt hn c (by omega) c1
      obtain ⟨l1, l2⟩ := low_wrap hn c c0 c1
      obtain ⟨x0, x1, -⟩ := cut_range hn a2 b4 b5
      have qr := quo_range (bits BinOp.and IntKind.u64 a2 (msk n)) c x0 (by omega)
      exact fnUnsignedQuotient_main a0 a1 a2 n c _ _ b0 b1 hn en ec rfl ⟨hn, by omega, c1, not_pow c (by omega) (by omega) hp⟩ cz hp (Lib.hid l1) (Lib.hid l2) (by omega) x0 x1 (by omega) (Lib.hid rfl) rfl (Int.tdiv_eq_ediv_of_nonneg x0) (by rw [IntKind.wrap_u64]; omega) (by omega) qr.1 (by omega) (Lib.hid (cmpI_eq rfl)) w
end Go.Proofs.YtjejffijhlppmaaGreatDoor
