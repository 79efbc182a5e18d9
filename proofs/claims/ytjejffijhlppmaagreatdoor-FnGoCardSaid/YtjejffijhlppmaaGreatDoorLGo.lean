/-
  The walk of FnGo.
-/
import Derived.Test.YtjejffijhlppmaaGreatDoorNm
import Derived.Test.YtjejffijhlppmaaGreatDoorDvT
import Derived.Deep.RegionWith
import Derived.Deep.RegionHeld3
namespace Go.Proofs.YtjejffijhlppmaaGreatDoor
open Go.Dv Go.RowKit
set_option linter.unusedVariables false

set_option maxHeartbeats 1000000 in
theorem fnGo_zero (x y : Int) (w : World) :
    Calls Tryz.prog 4 #[.int .i64 0, .int .i64 x, .int .u64 y] w fun e w' => e = .returned (.bool true) ∧ Below w.heap.size w w' := by
  go_enter Tryz.func4, Tryz.ntmps4
  go_wp2_with fail
  go_quiet (fail)
  go_wp2
  go_ret
  exact ⟨rfl, below_drewN (Below.refl _ _) _⟩

set_option maxHeartbeats 1000000 in
theorem fnGo_pow (c d x y : Int) (ed : IntKind.u64.wrap c = d) (dz : (d == 0) = false) (dz2 : (d != 0) = true) (dp : powW d = true) (w : World) :
    Calls Tryz.prog 4 #[.int .i64 c, .int .i64 x, .int .u64 y] w fun e w' => e = .returned (.bool true) ∧ Below w.heap.size w w' := by
  by_cases hc : c ≤ 0
  all_goals
    go_enter Tryz.func4, Tryz.ntmps4
    go_wp2_with fail
    go_quiet ((go_at_call 16; exact quietS (power_any _ _)))
    go_wp2_with (first | (go_at_call 16; refine (power_any _ _).mono ?_; rintro e w' ⟨rfl, rfl⟩))
    go_ret
    exact ⟨rfl, below_drewN (Below.refl _ _) _⟩

set_option maxRecDepth 100000 in
set_option maxHeartbeats 4000000 in
theorem fnGo_neg (c d x y qy ry : Int) (by' : Bool) (hu : Cu 64 d) (hl : Hid (low 64 c = d)) (ed : IntKind.u64.wrap c = d) (dz : (d == 0) = false) (dz2 : (d != 0) = true) (dne : d ≠ 0) (d0 : 0 < d) (dp : powW d = false) (y0 : 0 ≤ y) (y1 : y < pw 64) (y2 : y < 18446744073709551616)
    (hqy : Hid (y / d = qy)) (yq : y / d = qy) (yt : y.tdiv d = qy) (yw : IntKind.u64.wrap qy = qy) (qy0 : 0 ≤ qy) (qy1 : qy < 18446744073709551616) (hby : Hid ((y % d == 0) = by')) (yr : y % d = ry) (yrt : y.tmod d = ry) (yrw : IntKind.u64.wrap ry = ry) (hry : (ry == 0) = by') (h0 : Hid (cmpI qy qy = 0)) (cn : c ≤ 0) (w : World) (hT : Tab w) :
    Calls Tryz.prog 4 #[.int .i64 c, .int .i64 x, .int .u64 y] w fun e w' => e = .returned (.bool true) ∧ Below w.heap.size w w' := by
  cases by'
  all_goals
    go_enter Tryz.func4, Tryz.ntmps4
    go_wp2_with fail
    go_region_held3 (fun W => True) (first | go_keep | trivial) (first
      | (go_at_call 16; refine (power_any _ _).mono ?_; rintro e w' ⟨rfl, rfl⟩)
      | (go_at_call 19; refine (umagicQ hu c hl.out _).mono ?_; rintro e w1 ⟨rfl, hb1⟩; have hB1 : Below w.heap.size w w1 := (by first | exact (Below.refl _ _).drew.trans hb1 | exact hb1))
      | (go_at_call 18; refine (unsignedQ hu y qy y0 y1 hqy _).mono ?_; rintro e w2 ⟨v2, rfl, nv2, hb2⟩; have hB2 : Below w.heap.size w w2 := hB1.trans (hb2.mono hB1.size))
      | (go_at_call 22; refine (natOf_any qy qy0 qy1 _).mono ?_; rintro e w3 ⟨v3, rfl, nv3, hb3⟩; have hB3 : Below w.heap.size w w3 := hB2.trans (hb3.mono hB2.size))
      | (go_at_call 17; refine (cmpQ _ _ 15 2 qy qy 0 h0 (by omega) (by omega) _ (nv2.below hb3) nv3).mono ?_; rintro e w' ⟨rfl, rfl⟩)
      | (go_at_call 21; refine (udivQ hu c hl.out _ (hT.below hB3)).mono ?_; rintro e w4 ⟨rfl, hb4⟩; have hB4 : Below w.heap.size w w4 := hB3.trans (hb4.mono hB3.size))
      | (go_at_call 20; refine (dividesQ hu y _ y0 y1 hby _).mono ?_; rintro e w5 ⟨rfl, hb5⟩; have hB5 : Below w.heap.size w w5 := hB4.trans (hb5.mono hB4.size)))
    all_goals go_wp2
    all_goals go_ret
    all_goals exact ⟨rfl, hB5⟩

set_option maxRecDepth 100000 in
set_option maxHeartbeats 8000000 in
theorem fnGo_pos (c d x y qy ry yx qx ex rx : Int) (by' bx : Bool) (hu : Cu 64 d) (hl : Hid (low 64 c = d)) (ed : IntKind.u64.wrap c = d) (dz : (d == 0) = false) (dz2 : (d != 0) = true) (dne : d ≠ 0) (d0 : 0 < d) (dp : powW d = false) (y0 : 0 ≤ y) (y1 : y < pw 64) (y2 : y < 18446744073709551616)
    (hqy : Hid (y / d = qy)) (yq : y / d = qy) (yt : y.tdiv d = qy) (yw : IntKind.u64.wrap qy = qy) (qy0 : 0 ≤ qy) (qy1 : qy < 18446744073709551616) (hby : Hid ((y % d == 0) = by')) (yr : y % d = ry) (yrt : y.tmod d = ry) (yrw : IntKind.u64.wrap ry = ry) (hry : (ry == 0) = by') (h0 : Hid (cmpI qy qy = 0))
    (hs : Cs 64 c) (cp : 0 < c) (cne : c ≠ 0) (cpw : powW (IntKind.u64.wrap c) = false) (x0 : -(pw 64 / 2) ≤ x) (x1 : x < pw 64 / 2) (hyx : Hid (siz x = yx)) (hqx : Hid (yx / c = qx)) (xt : x.tdiv c = ex) (xw : IntKind.i64.wrap ex = ex) (hex : Hid (siz ex = qx)) (ex0 : -9223372036854775808 ≤ ex) (ex1 : ex < 9223372036854775808) (qx0 : 0 ≤ qx) (qx1 : qx < 18446744073709551616)
    (h0x : Hid (cmpI qx qx = 0)) (hbx : Hid ((siz x % c == 0) = bx)) (xr : x.tmod c = rx) (xrw : IntKind.i64.wrap rx = rx) (hrx : (rx == 0) = bx) (w : World) (hT : Tab w) :
    Calls Tryz.prog 4 #[.int .i64 c, .int .i64 x, .int .u64 y] w fun e w' => e = .returned (.bool true) ∧ Below w.heap.size w w' := by
  cases by' <;> cases bx
  all_goals
    go_enter Tryz.func4, Tryz.ntmps4
    go_wp2_with fail
    go_region_held3 (fun W => True) (first | go_keep | trivial) (first
      | (go_at_call 16; refine (power_any _ _).mono ?_; rintro e w' ⟨rfl, rfl⟩)
      | (go_at_call 19; refine (umagicQ hu c hl.out _).mono ?_; rintro e w1 ⟨rfl, hb1⟩; have hB1 : Below w.heap.size w w1 := (by first | exact (Below.refl _ _).drew.trans hb1 | exact hb1))
      | (go_at_call 18; refine (unsignedQ hu y qy y0 y1 hqy _).mono ?_; rintro e w2 ⟨v2, rfl, nv2, hb2⟩; have hB2 : Below w.heap.size w w2 := hB1.trans (hb2.mono hB1.size))
      | (go_at_call 22; refine (natOf_any qy qy0 qy1 _).mono ?_; rintro e w3 ⟨v3, rfl, nv3, hb3⟩; have hB3 : Below w.heap.size w w3 := hB2.trans (hb3.mono hB2.size))
      | (go_at_call 17; refine (cmpQ _ _ 15 2 qy qy 0 h0 (by omega) (by omega) _ (nv2.below hb3) nv3).mono ?_; rintro e w' ⟨rfl, rfl⟩)
      | (go_at_call 21; refine (udivQ hu c hl.out _ (hT.below hB3)).mono ?_; rintro e w4 ⟨rfl, hb4⟩; have hB4 : Below w.heap.size w w4 := hB3.trans (hb4.mono hB3.size))
      | (go_at_call 20; refine (dividesQ hu y _ y0 y1 hby _).mono ?_; rintro e w5 ⟨rfl, hb5⟩; have hB5 : Below w.heap.size w w5 := hB4.trans (hb5.mono hB4.size)))
    go_wp2_with (first | (go_at_call 16; refine (power_any _ _).mono ?_; rintro e w' ⟨rfl, rfl⟩))
    go_region_held3 (fun W => True) (first | go_keep | trivial) (first
      | (go_at_call 24; refine (smagicQ hs _).mono ?_; rintro e w6 ⟨rfl, hb6⟩; have hB6 : Below w.heap.size w w6 := hB5.trans (((Below.refl _ _).drew.trans hb6).mono hB5.size))
      | (go_at_call 23; refine (quotientQ hs x yx qx x0 x1 hyx hqx _).mono ?_; rintro e w7 ⟨v7, rfl, nv7, hb7⟩; have hB7 : Below w.heap.size w w7 := hB6.trans (hb7.mono hB6.size))
      | (go_at_call 25; refine (sizeQ ex qx hex ex0 ex1 _).mono ?_; rintro e w' ⟨rfl, rfl⟩)
      | (go_at_call 22; refine (natOf_any qx qx0 qx1 _).mono ?_; rintro e w8 ⟨v8, rfl, nv8, hb8⟩; have hB8 : Below w.heap.size w w8 := hB7.trans (hb8.mono hB7.size))
      | (go_at_call 17; refine (cmpQ _ _ 15 2 qx qx 0 h0x (by omega) (by omega) _ (nv7.below hb8) nv8).mono ?_; rintro e w' ⟨rfl, rfl⟩)
      | (go_at_call 27; refine (sdivQ hs _ (hT.below hB8)).mono ?_; rintro e w9 ⟨rfl, hb9⟩; have hB9 : Below w.heap.size w w9 := hB8.trans (hb9.mono hB8.size))
      | (go_at_call 26; refine (dividesSignedQ hs x _ x0 x1 hbx _).mono ?_; rintro e w10 ⟨rfl, hb10⟩; have hB10 : Below w.heap.size w w10 := hB9.trans (hb10.mono hB9.size)))
    all_goals go_wp2
    all_goals go_ret
    all_goals exact ⟨rfl, hB10⟩

theorem go_signed (x c : Int) (hc : 0 < c) : siz (x.tdiv c) = siz x / c ∧ ((x.tmod c == 0) = (siz x % c == 0)) ∧ -(siz x) ≤ x.tdiv c ∧ x.tdiv c ≤ siz x ∧ -c < x.tmod c ∧ x.tmod c < c := by
  by_cases hx : x < 0
  · obtain ⟨z, rfl⟩ : ∃ z, x = -z := ⟨-x, by omega⟩
    have hz : 0 < z := by omega
    have e1 : (-z).tdiv c = -(z / c) := by rw [Int.neg_tdiv, Int.tdiv_eq_ediv_of_nonneg (by omega)]
    have e2 : (-z).tmod c = -(z % c) := by rw [Int.neg_tmod, Int.tmod_eq_emod_of_nonneg (by omega)]
    have hs : siz (-z) = z := by unfold siz; rw [if_pos (by omega)]; omega
    have q0 : 0 ≤ z / c := Int.ediv_nonneg (by omega) (by omega)
    have q1 : z / c ≤ z := Int.ediv_le_self _ (by omega)
    have r0 := Int.emod_nonneg z (show c ≠ 0 by omega)
    have r1 := Int.emod_lt_of_pos z hc
    rw [e1, e2, hs]
    refine ⟨?_, ?_, by omega, by omega, by omega, by omega⟩
    · unfold siz; split <;> omega
    · by_cases h : z % c = 0
      · rw [h]; rfl
      · have h1 : (z % c == 0) = false := by simpa using h
        have h2 : (-(z % c) == 0) = false := by simpa using h
        rw [h1, h2]
  · have hs : siz x = x := by unfold siz; rw [if_neg hx]
    have q0 : 0 ≤ x / c := Int.ediv_nonneg (by omega) (by omega)
    have q1 : x / c ≤ x := Int.ediv_le_self _ (by omega)
    have r0 := Int.emod_nonneg x (show c ≠ 0 by omega)
    have r1 := Int.emod_lt_of_pos x hc
    rw [Int.tdiv_eq_ediv_of_nonneg (by omega), Int.tmod_eq_emod_of_nonneg (by omega), hs]
    refine ⟨?_, rfl, by omega, by omega, by omega, by omega⟩
    unfold siz; rw [if_neg (by omega)]

theorem fnGo_walk (c x y : Int) (w0 : (Lit.int .i64 c).wf = true) (w1 : (Lit.int .i64 x).wf = true) (w2 : (Lit.int .u64 y).wf = true) (w : World) (hT : Tab w) :
    Calls Tryz.prog 4 #[.int .i64 c, .int .i64 x, .int .u64 y] w fun e w' => e = .returned (.bool true) ∧ Below w.heap.size w w' := by
  obtain ⟨b0, b1⟩ := bounds_i64 w0
  obtain ⟨b2, b3⟩ := bounds_i64 w1
  obtain ⟨b4, b5⟩ := bounds_u64 w2
  by_cases hz : c = 0
  · subst hz
    exact fnGo_zero x y w
  · obtain ⟨d, ed⟩ : ∃ d, IntKind.u64.wrap c = d := ⟨_, rfl⟩
    have ed2 := ed
    rw [IntKind.wrap_u64] at ed2
    have d0 : 0 < d := by omega
    have d1 : d < 18446744073709551616 := by omega
    have dz : (d == 0) = false := by simp; omega
    have dz2 : (d != 0) = true := by unfold bne; rw [dz]; rfl
    cases hp : powW d with
    | true => exact fnGo_pow c d x y ed dz dz2 hp w
    | false =>
      have hn : isW 64 := .inr (.inr (.inr rfl))
      have hpw : pw 64 = 18446744073709551616 := rfl
      have hu : Cu 64 d := ⟨hn, d0, by omega, not_pow d d0 d1 hp⟩
      have hl : low 64 c = d := by rw [low_eq hn, hpw]; omega
      have qr := quo_range y d b4 d0
      have r0 := Int.emod_nonneg y (show d ≠ 0 by omega)
      have r1 := Int.emod_lt_of_pos y d0
      by_cases hc : c ≤ 0
      · exact fnGo_neg c d x y _ _ _ hu (Lib.hid hl) ed dz dz2 (by omega) d0 hp b4 (by omega) (by omega) (Lib.hid rfl) rfl (Int.tdiv_eq_ediv_of_nonneg b4) (by rw [IntKind.wrap_u64]; omega) qr.1 (by omega) (Lib.hid rfl) rfl (Int.tmod_eq_emod_of_nonneg b4) (by rw [IntKind.wrap_u64]; omega) rfl (Lib.hid (cmpI_eq rfl)) hc w hT
      · have hdc : d = c := by omega
        have hs : Cs 64 c := ⟨hn, by omega, by omega, by rw [← hdc]; exact hu.p⟩
        obtain ⟨g1, g2, g3, g4, g5, g6⟩ := go_signed x c (by omega)
        have sr := siz_range x b2 (by omega)
        have qr2 := quo_range (siz x) c sr.1 (by omega)
        have hcs := hs.lt
        have hlt : siz x / c < 9223372036854775808 := by
          have h3 := pt_ge c hs.c0 hs.p
          have : siz x / c ≤ siz x / 3 := by
            refine (Int.le_ediv_iff_mul_le (by decide)).2 ?_
            have e := Int.emod_add_mul_ediv (siz x) c
            have a := Int.emod_nonneg (siz x) (show c ≠ 0 by omega)
            have : siz x / c * 3 ≤ siz x / c * c := Int.mul_le_mul_of_nonneg_left h3 qr2.1
            rw [Int.mul_comm] at e
            omega
          omega
        have hex : -9223372036854775808 < x.tdiv c ∧ x.tdiv c < 9223372036854775808 := by
          rw [← g1] at hlt
          unfold siz at hlt
          split at hlt <;> omega
        exact fnGo_pos c d x y _ _ _ _ _ _ _ _ hu (Lib.hid hl) ed dz dz2 (by omega) d0 hp b4 (by omega) (by omega) (Lib.hid rfl) rfl (Int.tdiv_eq_ediv_of_nonneg b4) (by rw [IntKind.wrap_u64]; omega) qr.1 (by omega) (Lib.hid rfl) rfl (Int.tmod_eq_emod_of_nonneg b4) (by rw [IntKind.wrap_u64]; omega) rfl (Lib.hid (cmpI_eq rfl))
          hs (by omega) hz (by rw [ed]; exact hp) (by omega) (by omega) (Lib.hid rfl) (Lib.hid rfl) rfl (by rw [IntWalk.i64_left]; exact IntWalk.wrap64_in _ ⟨by omega, by omega⟩) (Lib.hid g1) (by omega) hex.2 qr2.1 (by omega) (Lib.hid (cmpI_eq rfl)) (Lib.hid g2.symm) rfl (by rw [IntWalk.i64_left]; exact IntWalk.wrap64_in _ ⟨by omega, by omega⟩) rfl w hT
end Go.Proofs.YtjejffijhlppmaaGreatDoor
