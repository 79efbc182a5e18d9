/-
  The walk of FnWidths.
-/
import Derived.Test.YtjejffijhlppmaaGreatDoorNm
import Derived.Test.YtjejffijhlppmaaGreatDoorDvT
import Derived.Deep.RegionWith
import Derived.Deep.RegionHeld3
namespace Go.Proofs.YtjejffijhlppmaaGreatDoor
open Go.Dv Go.RowKit
set_option linter.unusedVariables false

theorem field_S (s m : Int) (w : World) : (Instr.field 32 (.agg #[.int .i64 s, .int .u64 m]) 0).run Tryz.prog w = .ok (.int .i64 s) w := by kernel_rfl
set_option maxHeartbeats 1000000 in
theorem fnWidths_zero (a0 a1 a2 a3 n wd n0 v0 : Int) (HW0 : ∀ w, Calls Tryz.prog 14 #[.int .u8 a0] w fun e w' => e = .returned (.int .u64 n0) ∧ w = w') (HW1 : ∀ w, Calls Tryz.prog 14 #[.int .u8 a1] w fun e w' => e = .returned (.int .u64 v0) ∧ w = w') (hsw : (v0 < n0 ∧ n = v0 ∧ wd = n0) ∨ (¬ v0 < n0 ∧ n = n0 ∧ wd = v0)) (hn : isW n) (ec : bits BinOp.and IntKind.u64 a2 (msk n) = 0) (w : World) :
    Calls Tryz.prog 3 #[.int .u8 a0, .int .u8 a1, .int .u64 a2, .int .u64 a3] w fun e w' => e = .returned (.bool true) ∧ Below w.heap.size w w' := by
  rcases hsw with ⟨hs, rfl, rfl⟩ | ⟨hs, rfl, rfl⟩
  all_goals
    go_enter Tryz.func3, Tryz.ntmps3
    go_wp2_with (first | (go_at_call_of 14 a0; refine (HW0 _).mono ?_; rintro e w' ⟨rfl, rfl⟩) | (go_at_call_of 14 a1; refine (HW1 _).mono ?_; rintro e w' ⟨rfl, rfl⟩) | (go_at_call 15; refine (mask_any _ hn _).mono ?_; rintro e w' ⟨rfl, rfl⟩) | (go_at_call 16; refine (power_any _ _).mono ?_; rintro e w' ⟨rfl, rfl⟩))
    go_ret
    exact ⟨rfl, Below.refl _ _⟩

set_option maxHeartbeats 1000000 in
theorem fnWidths_pow (a0 a1 a2 a3 n wd n0 v0 c : Int) (HW0 : ∀ w, Calls Tryz.prog 14 #[.int .u8 a0] w fun e w' => e = .returned (.int .u64 n0) ∧ w = w') (HW1 : ∀ w, Calls Tryz.prog 14 #[.int .u8 a1] w fun e w' => e = .returned (.int .u64 v0) ∧ w = w') (hsw : (v0 < n0 ∧ n = v0 ∧ wd = n0) ∨ (¬ v0 < n0 ∧ n = n0 ∧ wd = v0)) (hn : isW n) (ec : bits BinOp.and IntKind.u64 a2 (msk n) = c) (cz : (c == 0) = false) (cp : powW c = true) (w : World) :
    Calls Tryz.prog 3 #[.int .u8 a0, .int .u8 a1, .int .u64 a2, .int .u64 a3] w fun e w' => e = .returned (.bool true) ∧ Below w.heap.size w w' := by
  rcases hsw with ⟨hs, rfl, rfl⟩ | ⟨hs, rfl, rfl⟩
  all_goals
    go_enter Tryz.func3, Tryz.ntmps3
    go_wp2_with (first | (go_at_call_of 14 a0; refine (HW0 _).mono ?_; rintro e w' ⟨rfl, rfl⟩) | (go_at_call_of 14 a1; refine (HW1 _).mono ?_; rintro e w' ⟨rfl, rfl⟩) | (go_at_call 15; refine (mask_any _ hn _).mono ?_; rintro e w' ⟨rfl, rfl⟩) | (go_at_call 16; refine (power_any _ _).mono ?_; rintro e w' ⟨rfl, rfl⟩))
    go_ret
    exact ⟨rfl, Below.refl _ _⟩

set_option maxRecDepth 100000 in
set_option maxHeartbeats 4000000 in
theorem fnWidths_main (a0 a1 a2 a3 n wd n0 v0 c x q : Int) (bt : Bool) (HW0 : ∀ w, Calls Tryz.prog 14 #[.int .u8 a0] w fun e w' => e = .returned (.int .u64 n0) ∧ w = w') (HW1 : ∀ w, Calls Tryz.prog 14 #[.int .u8 a1] w fun e w' => e = .returned (.int .u64 v0) ∧ w = w') (hsw : (v0 < n0 ∧ n = v0 ∧ wd = n0) ∨ (¬ v0 < n0 ∧ n = n0 ∧ wd = v0)) (hn : isW n) (ec : bits BinOp.and IntKind.u64 a2 (msk n) = c) (ex : bits BinOp.and IntKind.u64 a3 (msk n) = x)
    (hc : Cu n c) (cz : (c == 0) = false) (cp : powW c = false) (cd : Hid (low n (IntKind.i64.wrap c) = c)) (cd2 : Hid (low n (wrap64 c) = c)) (hw : Cu wd c) (wd1 : Hid (low wd (IntKind.i64.wrap c) = c)) (wd2 : Hid (low wd (wrap64 c) = c)) (x0 : 0 ≤ x) (x1 : x < pw n) (x1w : x < pw wd) (hq : Hid (x / c = q)) (hbt : Hid ((x % c == 0) = bt)) (h0 : Hid (cmpI q q = 0)) (hs0 : 0 < blen c) (w : World) (hT : Tab w) :
    Calls Tryz.prog 3 #[.int .u8 a0, .int .u8 a1, .int .u64 a2, .int .u64 a3] w fun e w' => e = .returned (.bool true) ∧ Below w.heap.size w w' := by
  have hf := field_S
  cases bt
  all_goals
    rcases hsw with ⟨hs, rfl, rfl⟩ | ⟨hs, rfl, rfl⟩
  all_goals
    go_enter Tryz.func3, Tryz.ntmps3
    go_wp2_with (first | (go_at_call_of 14 a0; refine (HW0 _).mono ?_; rintro e w' ⟨rfl, rfl⟩) | (go_at_call_of 14 a1; refine (HW1 _).mono ?_; rintro e w' ⟨rfl, rfl⟩) | (go_at_call 15; refine (mask_any _ hn _).mono ?_; rintro e w' ⟨rfl, rfl⟩) | (go_at_call 16; refine (power_any _ _).mono ?_; rintro e w' ⟨rfl, rfl⟩))
    have H0 := Below.refl w.heap.size w
    refine (umagicQ hc _ (by first | exact cd.out | exact cd2.out) _).mono ?_
    rintro e w1 ⟨rfl, hb1⟩
    have H1 := H0.trans (hb1.mono H0.size)
    go_wp2_with fail
    refine (unsignedQ hc x q x0 x1 hq _).mono ?_
    rintro e w2 ⟨v1, rfl, nv_v1, hb2⟩
    have H2 := H1.trans (hb2.mono H1.size)
    go_wp2_with fail
    refine (umagicQ hw _ (by first | exact wd1.out | exact wd2.out) _).mono ?_
    rintro e w3 ⟨rfl, hb3⟩
    have H3 := H2.trans (hb3.mono H2.size)
    go_wp2_with fail
    refine (unsignedQ hw x q x0 x1w hq _).mono ?_
    rintro e w4 ⟨v2, rfl, nv_v2, hb4⟩
    have H4 := H3.trans (hb4.mono H3.size)
    go_wp2_with fail
    refine (cmpQ _ _ 15 15 q q 0 h0 (by omega) (by omega) _ ((nv_v1.below hb3).below hb4) nv_v2).mono ?_
    rintro e w' ⟨rfl, rfl⟩
    go_wp2_with fail
    refine (udivQ hc _ (by first | exact cd.out | exact cd2.out) _ (hT.below H4)).mono ?_
    rintro e w5 ⟨rfl, hb5⟩
    have H5 := H4.trans (hb5.mono H4.size)
    go_wp2_with fail
    refine (dividesQ hc x _ x0 x1 hbt _).mono ?_
    rintro e w6 ⟨rfl, hb6⟩
    have H6 := H5.trans (hb6.mono H5.size)
    go_wp2_with fail
    refine (udivQ hw _ (by first | exact wd1.out | exact wd2.out) _ (hT.below H6)).mono ?_
    rintro e w7 ⟨rfl, hb7⟩
    have H7 := H6.trans (hb7.mono H6.size)
    go_wp2_with fail
    refine (dividesQ hw x _ x0 x1w hbt _).mono ?_
    rintro e w8 ⟨rfl, hb8⟩
    have H8 := H7.trans (hb8.mono H7.size)
    go_wp2_with fail
    refine (umagicQ hc _ (by first | exact cd.out | exact cd2.out) _).mono ?_
    rintro e w9 ⟨rfl, hb9⟩
    have H9 := H8.trans (hb9.mono H8.size)
    go_wp2_with fail
    go_ret
    exact ⟨rfl, H9⟩

theorem width_lt {n v : Int} (hn : isW n) (hv : isW v) (h : n ≤ v) : pw n ≤ pw v := by
  have h1 := pw_cases hn
  have h2 := pw_cases hv
  omega
theorem fnWidths_walk (a0 a1 a2 a3 : Int) (w0 : (Lit.int .u8 a0).wf = true) (w1 : (Lit.int .u8 a1).wf = true) (w2 : (Lit.int .u64 a2).wf = true) (w3 : (Lit.int .u64 a3).wf = true) (w : World) (hT : Tab w) :
    Calls Tryz.prog 3 #[.int .u8 a0, .int .u8 a1, .int .u64 a2, .int .u64 a3] w fun e w' => e = .returned (.bool true) ∧ Below w.heap.size w w' := by
  obtain ⟨b0, b1⟩ := bounds_u8 w0
  obtain ⟨b2, b3⟩ := bounds_u8 w1
  obtain ⟨b4, b5⟩ := bounds_u64 w2
  obtain ⟨b6, b7⟩ := bounds_u64 w3
  have hn0 := isW_wid a0 b0 b1
  have hv0 := isW_wid a1 b2 b3
  have HW0 := width_any a0 b0 b1
  have HW1 := width_any a1 b2 b3
  obtain ⟨n0, en⟩ : ∃ n, wid a0 = n := ⟨_, rfl⟩
  obtain ⟨v0, ev⟩ : ∃ n, wid a1 = n := ⟨_, rfl⟩
  rw [en] at hn0 HW0
  rw [ev] at hv0 HW1
  obtain ⟨n, wd, hsw, hn, hw, hle⟩ : ∃ n wd : Int, ((v0 < n0 ∧ n = v0 ∧ wd = n0) ∨ (¬ v0 < n0 ∧ n = n0 ∧ wd = v0)) ∧ isW n ∧ isW wd ∧ n ≤ wd := by
    by_cases h : v0 < n0
    · exact ⟨v0, n0, .inl ⟨h, rfl, rfl⟩, hv0, hn0, by omega⟩
    · exact ⟨n0, v0, .inr ⟨h, rfl, rfl⟩, hn0, hv0, by omega⟩
  have hpl := width_lt hn hw hle
  obtain ⟨p0, p1, p2⟩ := pw_pos hn
  obtain ⟨c, ec⟩ : ∃ c, bits BinOp.and IntKind.u64 a2 (msk n) = c := ⟨_, rfl⟩
  obtain ⟨c0, c1, -⟩ := cut_range hn a2 b4 b5
  rw [ec] at c0 c1
  by_cases hz : c = 0
  · subst hz
    exact fnWidths_zero a0 a1 a2 a3 n wd n0 v0 HW0 HW1 hsw hn ec w
  · have cz : (c == 0) = false := by simpa using hz
    cases hp : powW c with
    | true => exact fnWidths_pow a0 a1 a2 a3 n wd n0 v0 c HW0 HW1 hsw hn ec cz hp w
    | false =>
      obtain ⟨l1, l2⟩ := low_wrap hn c c0 c1
      obtain ⟨l3, l4⟩ := low_wrap hw c c0 (by omega)
      obtain ⟨x0, x1, -⟩ := cut_range hn a3 b6 b7
      have hcc : Cu n c := ⟨hn, by omega, c1, not_pow c (by omega) (by omega) hp⟩
      have hcw : Cu wd c := ⟨hw, hcc.c0, by omega, hcc.p⟩
      have hbl := (ts_spec c hcc.c0 hcc.lt hcc.p).1
      exact fnWidths_main a0 a1 a2 a3 n wd n0 v0 c _ _ _ HW0 HW1 hsw hn ec rfl hcc cz hp (Lib.hid l1) (Lib.hid l2) hcw (Lib.hid l3) (Lib.hid l4) x0 x1 (by omega) (Lib.hid rfl) (Lib.hid rfl) (Lib.hid (cmpI_eq rfl)) (by omega) w hT
end Go.Proofs.YtjejffijhlppmaaGreatDoor
