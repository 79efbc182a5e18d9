/-
  The walk of FnTwoRoads.
-/
import Derived.Test.YtjejffijhlppmaaGreatDoorNm
import Derived.Test.YtjejffijhlppmaaGreatDoorDvT
import Derived.Deep.RegionWith
import Derived.Deep.RegionHeld3
namespace Go.Proofs.YtjejffijhlppmaaGreatDoor
open Go.Dv Go.RowKit
set_option linter.unusedVariables false

theorem div_left (x c : Int) (h : 0 < c) : x / c * c ≤ x ∧ x < x / c * c + c := by
  have e := Int.emod_add_mul_ediv x c
  have a := Int.emod_nonneg x (show c ≠ 0 by omega)
  have b := Int.emod_lt_of_pos x h
  rw [Int.mul_comm] at e
  omega
theorem left_zero (x c : Int) (h : 0 < c) : (cmpI (x / c * c) x == 0) = (x % c == 0) := by
  have e := Int.emod_add_mul_ediv x c
  have a := Int.emod_nonneg x (show c ≠ 0 by omega)
  rw [Int.mul_comm] at e
  by_cases h0 : x % c = 0
  · rw [cmpI_eq (by omega), h0]
  · have : (x % c == 0) = false := by simpa using h0
    rw [cmpI_lt (by omega), this]; rfl
set_option maxHeartbeats 1000000 in
theorem fnTwoRoads_zero (a0 a1 a2 n : Int) (b0 : 0 ≤ a0) (b1 : a0 ≤ 255) (hn : isW n) (en : wid a0 = n) (ec : bits BinOp.and IntKind.u64 a1 (msk n) = 0) (w : World) :
    Calls Tryz.prog 13 #[.int .u8 a0, .int .u64 a1, .int .u64 a2] w fun e w' => e = .returned (.bool true) ∧ Below w.heap.size w w' := by
  go_enter Tryz.func13, Tryz.ntmps13
  go_wp2_with (first | (go_at_call 14; refine (width_any a0 b0 b1 _).mono ?_; rintro e w' ⟨rfl, rfl⟩) | (go_at_call 15; refine (mask_any _ hn _).mono ?_; rintro e w' ⟨rfl, rfl⟩) | (go_at_call 16; refine (power_any _ _).mono ?_; rintro e w' ⟨rfl, rfl⟩))
  go_ret
  exact ⟨rfl, Below.refl _ _⟩

set_option maxHeartbeats 1000000 in
theorem fnTwoRoads_pow (a0 a1 a2 n c : Int) (b0 : 0 ≤ a0) (b1 : a0 ≤ 255) (hn : isW n) (en : wid a0 = n) (ec : bits BinOp.and IntKind.u64 a1 (msk n) = c) (cz : (c == 0) = false) (cp : powW c = true) (w : World) :
    Calls Tryz.prog 13 #[.int .u8 a0, .int .u64 a1, .int .u64 a2] w fun e w' => e = .returned (.bool true) ∧ Below w.heap.size w w' := by
  go_enter Tryz.func13, Tryz.ntmps13
  go_wp2_with (first | (go_at_call 14; refine (width_any a0 b0 b1 _).mono ?_; rintro e w' ⟨rfl, rfl⟩) | (go_at_call 15; refine (mask_any _ hn _).mono ?_; rintro e w' ⟨rfl, rfl⟩) | (go_at_call 16; refine (power_any _ _).mono ?_; rintro e w' ⟨rfl, rfl⟩))
  go_ret
  exact ⟨rfl, Below.refl _ _⟩

set_option maxRecDepth 100000 in
set_option maxHeartbeats 4000000 in
theorem fnTwoRoads_main (a0 a1 a2 n c x q l r : Int) (bt : Bool) (b0 : 0 ≤ a0) (b1 : a0 ≤ 255) (hn : isW n) (en : wid a0 = n) (ec : bits BinOp.and IntKind.u64 a1 (msk n) = c) (ex : bits BinOp.and IntKind.u64 a2 (msk n) = x)
    (hc : Cu n c) (cz : (c == 0) = false) (cp : powW c = false) (cd : Hid (low n (IntKind.i64.wrap c) = c)) (cd2 : Hid (low n (wrap64 c) = c)) (x0 : 0 ≤ x) (x1 : x < pw n) (x2 : x < 18446744073709551616) (hq : Hid (x / c = q)) (hl : Hid (q * c = l)) (h1 : Hid (cmpI l x = r)) (hbt : Hid ((x % c == 0) = bt)) (h3 : (r == 0) = bt) (w : World) (hT : Tab w) :
    Calls Tryz.prog 13 #[.int .u8 a0, .int .u64 a1, .int .u64 a2] w fun e w' => e = .returned (.bool true) ∧ Below w.heap.size w w' := by
  cases bt
  all_goals
    go_enter Tryz.func13, Tryz.ntmps13
    go_wp2_with (first | (go_at_call 14; refine (width_any a0 b0 b1 _).mono ?_; rintro e w' ⟨rfl, rfl⟩) | (go_at_call 15; refine (mask_any _ hn _).mono ?_; rintro e w' ⟨rfl, rfl⟩) | (go_at_call 16; refine (power_any _ _).mono ?_; rintro e w' ⟨rfl, rfl⟩))
    have H0 := Below.refl w.heap.size w
    refine (umagicQ hc _ (by first | exact cd.out | exact cd2.out) _).mono ?_
    rintro e w1 ⟨rfl, hb1⟩
    have H1 := H0.trans (hb1.mono H0.size)
    go_wp2_with fail
    refine (unsignedQ hc x q x0 x1 hq _).mono ?_
    rintro e w2 ⟨v1, rfl, nv_v1, hb2⟩
    have H2 := H1.trans (hb2.mono H1.size)
    go_wp2_with fail
    refine (udivQ hc _ (by first | exact cd.out | exact cd2.out) _ (hT.below H2)).mono ?_
    rintro e w3 ⟨rfl, hb3⟩
    have H3 := H2.trans (hb3.mono H2.size)
    go_wp2_with fail
    refine (dividesQ hc x _ x0 x1 hbt _).mono ?_
    rintro e w4 ⟨rfl, hb4⟩
    have H4 := H3.trans (hb4.mono H3.size)
    go_wp2_with fail
    refine (natOf_any c (Int.le_of_lt hc.c0) hc.lt _).mono ?_
    rintro e w5 ⟨v2, rfl, nv_v2, hb5⟩
    have H5 := H4.trans (hb5.mono H4.size)
    go_wp2_with fail
    refine (natMul_any _ _ 15 2 q c (by omega) (by omega) hc.c0 _ (((nv_v1.below hb3).below hb4).below hb5) nv_v2).mono ?_
    rintro e w6 ⟨v3, rfl, nv_v3, hb6⟩
    have H6 := H5.trans (hb6.mono H5.size)
    go_wp2_with fail
    rw [hl.out] at nv_v3
    refine (natOf_any x x0 x2 _).mono ?_
    rintro e w7 ⟨v4, rfl, nv_v4, hb7⟩
    have H7 := H6.trans (hb7.mono H6.size)
    go_wp2_with fail
    refine (cmpQ _ _ 17 2 l x r h1 (by omega) (by omega) _ (nv_v3.below hb7) nv_v4).mono ?_
    rintro e w' ⟨rfl, rfl⟩
    go_wp2_with fail
    go_ret
    exact ⟨rfl, H7⟩

theorem fnTwoRoads_walk (a0 a1 a2 : Int) (w0 : (Lit.int .u8 a0).wf = true) (w1 : (Lit.int .u64 a1).wf = true) (w2 : (Lit.int .u64 a2).wf = true) (w : World) (hT : Tab w) :
    Calls Tryz.prog 13 #[.int .u8 a0, .int .u64 a1, .int .u64 a2] w fun e w' => e = .returned (.bool true) ∧ Below w.heap.size w w' := by
  obtain ⟨b0, b1⟩ := bounds_u8 w0
  obtain ⟨b2, b3⟩ := bounds_u64 w1
  obtain ⟨b4, b5⟩ := bounds_u64 w2
  have hn := isW_wid a0 b0 b1
  obtain ⟨n, en⟩ : ∃ n, wid a0 = n := ⟨_, rfl⟩
  rw [en] at hn
  obtain ⟨p0, p1, p2⟩ := pw_pos hn
  obtain ⟨c, ec⟩ : ∃ c, bits BinOp.and IntKind.u64 a1 (msk n) = c := ⟨_, rfl⟩
  obtain ⟨c0, c1, -⟩ := cut_range hn a1 b2 b3
  rw [ec] at c0 c1
  by_cases hz : c = 0
  · subst hz
    exact fnTwoRoads_zero a0 a1 a2 n b0 b1 hn en ec w
  · have cz : (c == 0) = false := by simpa using hz
    cases hp : powW c with
    | true => exact fnTwoRoads_pow a0 a1 a2 n c b0 b1 hn en ec cz hp w
    | false =>
      obtain ⟨t0, t1, -⟩ := tz_lt hn c (by omega) c1
      obtain ⟨l1, l2⟩ := low_wrap hn c c0 c1
      obtain ⟨x0, x1, -⟩ := cut_range hn a2 b4 b5
      have hd := div_left (bits BinOp.and IntKind.u64 a2 (msk n)) c (by omega)
      exact fnTwoRoads_main a0 a1 a2 n c _ _ _ _ _ b0 b1 hn en ec rfl ⟨hn, by omega, c1, not_pow c (by omega) (by omega) hp⟩ cz hp (Lib.hid l1) (Lib.hid l2) x0 x1 (by omega) (Lib.hid rfl) (Lib.hid rfl) (Lib.hid rfl) (Lib.hid rfl) (left_zero _ c (by omega)) w hT
end Go.Proofs.YtjejffijhlppmaaGreatDoor
