/-
  The walk of FnTwoSigns.
-/
import Derived.Test.YtjejffijhlppmaaGreatDoorNm
import Derived.Test.YtjejffijhlppmaaGreatDoorDvT
import Derived.Deep.RegionWith
import Derived.Deep.RegionHeld3
namespace Go.Proofs.YtjejffijhlppmaaGreatDoor
open Go.Dv Go.RowKit
set_option linter.unusedVariables false

set_option maxHeartbeats 1000000 in
theorem fnTwoSigns_zero (a0 a1 a2 n : Int) (b0 : 0 ≤ a0) (b1 : a0 ≤ 255) (hn : isW n) (en : wid a0 = n) (ec : bits BinOp.and IntKind.u64 a1 (msk n / 2) = 0) (w : World) :
    Calls Tryz.prog 5 #[.int .u8 a0, .int .u64 a1, .int .u64 a2] w fun e w' => e = .returned (.bool true) ∧ Below w.heap.size w w' := by
  go_enter Tryz.func5, Tryz.ntmps5
  go_wp2_with (first | (go_at_call 14; refine (width_any a0 b0 b1 _).mono ?_; rintro e w' ⟨rfl, rfl⟩) | (go_at_call 15; refine (mask_any _ hn _).mono ?_; rintro e w' ⟨rfl, rfl⟩) | (go_at_call 16; refine (power_any _ _).mono ?_; rintro e w' ⟨rfl, rfl⟩))
  go_ret
  exact ⟨rfl, Below.refl _ _⟩

set_option maxHeartbeats 1000000 in
theorem fnTwoSigns_pow (a0 a1 a2 n c : Int) (b0 : 0 ≤ a0) (b1 : a0 ≤ 255) (hn : isW n) (en : wid a0 = n) (ec : bits BinOp.and IntKind.u64 a1 (msk n / 2) = c) (cz : (c == 0) = false) (cp : powW c = true) (w : World) :
    Calls Tryz.prog 5 #[.int .u8 a0, .int .u64 a1, .int .u64 a2] w fun e w' => e = .returned (.bool true) ∧ Below w.heap.size w w' := by
  go_enter Tryz.func5, Tryz.ntmps5
  go_wp2_with (first | (go_at_call 14; refine (width_any a0 b0 b1 _).mono ?_; rintro e w' ⟨rfl, rfl⟩) | (go_at_call 15; refine (mask_any _ hn _).mono ?_; rintro e w' ⟨rfl, rfl⟩) | (go_at_call 16; refine (power_any _ _).mono ?_; rintro e w' ⟨rfl, rfl⟩))
  go_ret
  exact ⟨rfl, Below.refl _ _⟩

theorem field_S (s m : Int) (w : World) : (Instr.field 32 (.agg #[.int .i64 s, .int .u64 m]) 0).run Tryz.prog w = .ok (.int .i64 s) w := by kernel_rfl
set_option maxRecDepth 100000 in
set_option maxHeartbeats 4000000 in
theorem fnTwoSigns_main (a0 a1 a2 n c x q : Int) (bt : Bool) (b0 : 0 ≤ a0) (b1 : a0 ≤ 255) (hn : isW n) (en : wid a0 = n) (ec : bits BinOp.and IntKind.u64 a1 (msk n / 2) = c) (ex : bits BinOp.and IntKind.u64 a2 (msk n / 2) = x)
    (hc : Cs n c) (cz : (c == 0) = false) (cp : powW c = false) (ei : IntKind.i64.wrap c = c) (ei2 : wrap64 c = c) (hlc : Hid (low n c = c)) (x0 : 0 ≤ x) (x1 : x < pw n / 2) (xs0 : -(pw n / 2) ≤ x) (xu1 : x < pw n) (eix : IntKind.i64.wrap x = x) (eix2 : wrap64 x = x) (hy : Hid (siz x = x)) (hq : Hid (x / c = q)) (hbs : Hid ((siz x % c == 0) = bt)) (hbt : Hid ((x % c == 0) = bt)) (h0 : Hid (cmpI q q = 0)) (hs : 0 < blen c) (w : World) (hT : Tab w) :
    Calls Tryz.prog 5 #[.int .u8 a0, .int .u64 a1, .int .u64 a2] w fun e w' => e = .returned (.bool true) ∧ Below w.heap.size w w' := by
  have hf := field_S
  cases bt
  all_goals
    go_enter Tryz.func5, Tryz.ntmps5
    go_wp2_with (first | (go_at_call 14; refine (width_any a0 b0 b1 _).mono ?_; rintro e w' ⟨rfl, rfl⟩) | (go_at_call 15; refine (mask_any _ hn _).mono ?_; rintro e w' ⟨rfl, rfl⟩) | (go_at_call 16; refine (power_any _ _).mono ?_; rintro e w' ⟨rfl, rfl⟩))
    have H0 := Below.refl w.heap.size w
    refine (sdivQ hc _ hT).mono ?_
    rintro e w1 ⟨rfl, hb1⟩
    have H1 := H0.trans (hb1.mono H0.size)
    go_wp2_with fail
    refine (dividesSignedQ hc x _ xs0 x1 hbs _).mono ?_
    rintro e w2 ⟨rfl, hb2⟩
    have H2 := H1.trans (hb2.mono H1.size)
    go_wp2_with fail
    refine (udivQ hc.u c hlc.out _ (hT.below H2)).mono ?_
    rintro e w3 ⟨rfl, hb3⟩
    have H3 := H2.trans (hb3.mono H2.size)
    go_wp2_with fail
    refine (dividesQ hc.u x _ x0 xu1 hbt _).mono ?_
    rintro e w4 ⟨rfl, hb4⟩
    have H4 := H3.trans (hb4.mono H3.size)
    go_wp2_with fail
    refine (smagicQ hc _).mono ?_
    rintro e w5 ⟨rfl, hb5⟩
    have H5 := H4.trans (hb5.mono H4.size)
    go_wp2_with fail
    refine (quotientQ hc x x q xs0 x1 hy hq _).mono ?_
    rintro e w6 ⟨v1, rfl, nv_v1, hb6⟩
    have H6 := H5.trans (hb6.mono H5.size)
    go_wp2_with fail
    refine (umagicQ hc.u c hlc.out _).mono ?_
    rintro e w7 ⟨rfl, hb7⟩
    have H7 := H6.trans (hb7.mono H6.size)
    go_wp2_with fail
    refine (unsignedQ hc.u x q x0 xu1 hq _).mono ?_
    rintro e w8 ⟨v2, rfl, nv_v2, hb8⟩
    have H8 := H7.trans (hb8.mono H7.size)
    go_wp2_with fail
    refine (cmpQ _ _ 15 15 q q 0 h0 (by omega) (by omega) _ ((nv_v1.below hb7).below hb8) nv_v2).mono ?_
    rintro e w' ⟨rfl, rfl⟩
    go_wp2_with fail
    refine (umagicQ hc.u c hlc.out _).mono ?_
    rintro e w9 ⟨rfl, hb9⟩
    have H9 := H8.trans (hb9.mono H8.size)
    go_wp2_with fail
    go_ret
    exact ⟨rfl, H9⟩

theorem fnTwoSigns_walk (a0 a1 a2 : Int) (w0 : (Lit.int .u8 a0).wf = true) (w1 : (Lit.int .u64 a1).wf = true) (w2 : (Lit.int .u64 a2).wf = true) (w : World) (hT : Tab w) :
    Calls Tryz.prog 5 #[.int .u8 a0, .int .u64 a1, .int .u64 a2] w fun e w' => e = .returned (.bool true) ∧ Below w.heap.size w w' := by
  obtain ⟨b0, b1⟩ := bounds_u8 w0
  obtain ⟨b2, b3⟩ := bounds_u64 w1
  obtain ⟨b4, b5⟩ := bounds_u64 w2
  have hn := isW_wid a0 b0 b1
  obtain ⟨n, en⟩ : ∃ n, wid a0 = n := ⟨_, rfl⟩
  rw [en] at hn
  obtain ⟨p0, p1, p2⟩ := pw_pos hn
  obtain ⟨c, ec⟩ : ∃ c, bits BinOp.and IntKind.u64 a1 (msk n / 2) = c := ⟨_, rfl⟩
  obtain ⟨c0, c1⟩ := half_range hn a1 b2 b3
  rw [ec] at c0 c1
  by_cases hz : c = 0
  · subst hz
    exact fnTwoSigns_zero a0 a1 a2 n b0 b1 hn en ec w
  · have cz : (c == 0) = false := by simpa using hz
    cases hp : powW c with
    | true => exact fnTwoSigns_pow a0 a1 a2 n c b0 b1 hn en ec cz hp w
    | false =>
      obtain ⟨t0, t1, -⟩ := tz_lt hn c (by omega) (by omega)
      obtain ⟨l1, l2⟩ := low_wrap hn c c0 (by omega)
      obtain ⟨x0, x1⟩ := half_range hn a2 b4 b5
      have hsz : siz (bits BinOp.and IntKind.u64 a2 (msk n / 2)) = bits BinOp.and IntKind.u64 a2 (msk n / 2) := by unfold siz; rw [if_neg (by omega)]
      have hcc : Cs n c := ⟨hn, by omega, c1, not_pow c (by omega) (by omega) hp⟩
      have hbl := (ts_spec c hcc.c0 hcc.u.lt hcc.p).1
      have hl : low n c = c := by have h := l2; rw [IntWalk.wrap64_in c ⟨by omega, by omega⟩] at h; exact h
      exact fnTwoSigns_main a0 a1 a2 n c _ _ _ b0 b1 hn en ec rfl hcc cz hp (by rw [IntWalk.i64_left]; exact IntWalk.wrap64_in c ⟨by omega, by omega⟩) (IntWalk.wrap64_in c ⟨by omega, by omega⟩) (Lib.hid hl) x0 x1 (by omega) (by omega) (by rw [IntWalk.i64_left]; exact IntWalk.wrap64_in _ ⟨by omega, by omega⟩) (IntWalk.wrap64_in _ ⟨by omega, by omega⟩) (Lib.hid hsz) (Lib.hid rfl) (Lib.hid (by rw [hsz])) (Lib.hid rfl) (Lib.hid (cmpI_eq rfl)) (by omega) w hT
end Go.Proofs.YtjejffijhlppmaaGreatDoor
