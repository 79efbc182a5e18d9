/-
  The walk of FnOpposite.
-/
import Derived.Test.YtjejffijhlppmaaGreatDoorNm
import Derived.Test.YtjejffijhlppmaaGreatDoorDvT
import Derived.Deep.RegionWith
import Derived.Deep.RegionHeld3
namespace Go.Proofs.YtjejffijhlppmaaGreatDoor
open Go.Dv Go.RowKit
set_option linter.unusedVariables false

set_option maxHeartbeats 1000000 in
theorem fnOpposite_zero (a0 a1 a2 n : Int) (b0 : 0 ≤ a0) (b1 : a0 ≤ 255) (hn : isW n) (en : wid a0 = n) (ec : bits BinOp.and IntKind.u64 a1 (msk n / 2) = 0) (w : World) :
    Calls Tryz.prog 12 #[.int .u8 a0, .int .u64 a1, .int .u64 a2] w fun e w' => e = .returned (.bool true) ∧ Below w.heap.size w w' := by
  go_enter Tryz.func12, Tryz.ntmps12
  go_wp2_with (first | (go_at_call 14; refine (width_any a0 b0 b1 _).mono ?_; rintro e w' ⟨rfl, rfl⟩) | (go_at_call 15; refine (mask_any _ hn _).mono ?_; rintro e w' ⟨rfl, rfl⟩) | (go_at_call 16; refine (power_any _ _).mono ?_; rintro e w' ⟨rfl, rfl⟩) | (go_at_call 30; refine (signed_any _ _ hn _).mono ?_; rintro e w' ⟨rfl, rfl⟩))
  go_ret
  exact ⟨rfl, Below.refl _ _⟩

set_option maxHeartbeats 1000000 in
theorem fnOpposite_pow (a0 a1 a2 n c : Int) (b0 : 0 ≤ a0) (b1 : a0 ≤ 255) (hn : isW n) (en : wid a0 = n) (ec : bits BinOp.and IntKind.u64 a1 (msk n / 2) = c) (cz : (c == 0) = false) (cp : powW c = true) (w : World) :
    Calls Tryz.prog 12 #[.int .u8 a0, .int .u64 a1, .int .u64 a2] w fun e w' => e = .returned (.bool true) ∧ Below w.heap.size w w' := by
  go_enter Tryz.func12, Tryz.ntmps12
  go_wp2_with (first | (go_at_call 14; refine (width_any a0 b0 b1 _).mono ?_; rintro e w' ⟨rfl, rfl⟩) | (go_at_call 15; refine (mask_any _ hn _).mono ?_; rintro e w' ⟨rfl, rfl⟩) | (go_at_call 16; refine (power_any _ _).mono ?_; rintro e w' ⟨rfl, rfl⟩) | (go_at_call 30; refine (signed_any _ _ hn _).mono ?_; rintro e w' ⟨rfl, rfl⟩))
  go_ret
  exact ⟨rfl, Below.refl _ _⟩

set_option maxHeartbeats 1000000 in
theorem fnOpposite_min (a0 a1 a2 n c x : Int) (b0 : 0 ≤ a0) (b1 : a0 ≤ 255) (hn : isW n) (en : wid a0 = n) (g0 : 8 ≤ n) (g1 : n ≤ 64) (ec : bits BinOp.and IntKind.u64 a1 (msk n / 2) = c) (cz : (c == 0) = false) (cp : powW c = false) (ex : sgn n a2 = x) (emn : sgn n (IntKind.u64.wrap (2 ^ (n.toNat - 1))) = x) (w : World) :
    Calls Tryz.prog 12 #[.int .u8 a0, .int .u64 a1, .int .u64 a2] w fun e w' => e = .returned (.bool true) ∧ Below w.heap.size w w' := by
  go_enter Tryz.func12, Tryz.ntmps12
  go_wp2_with (first | (go_at_call 14; refine (width_any a0 b0 b1 _).mono ?_; rintro e w' ⟨rfl, rfl⟩) | (go_at_call 15; refine (mask_any _ hn _).mono ?_; rintro e w' ⟨rfl, rfl⟩) | (go_at_call 16; refine (power_any _ _).mono ?_; rintro e w' ⟨rfl, rfl⟩) | (go_at_call 30; refine (signed_any _ _ hn _).mono ?_; rintro e w' ⟨rfl, rfl⟩))
  go_ret
  exact ⟨rfl, Below.refl _ _⟩

set_option maxRecDepth 100000 in
set_option maxHeartbeats 4000000 in
theorem fnOpposite_main (a0 a1 a2 n c x x' y q mn : Int) (bt : Bool) (b0 : 0 ≤ a0) (b1 : a0 ≤ 255) (hn : isW n) (en : wid a0 = n) (g0 : 8 ≤ n) (g1 : n ≤ 64) (ec : bits BinOp.and IntKind.u64 a1 (msk n / 2) = c) (ex : sgn n a2 = x) (emn : sgn n (IntKind.u64.wrap (2 ^ (n.toNat - 1))) = mn) (hne : (x == mn) = false)
    (hc : Cs n c) (cz : (c == 0) = false) (cp : powW c = false) (ei : IntKind.i64.wrap c = c) (ei2 : wrap64 c = c) (x0 : -(pw n / 2) ≤ x) (x1 : x < pw n / 2) (exn : -x = x') (exw : IntKind.i64.wrap x' = x') (exw2 : IntKind.i64.wrap (-x) = x') (x0' : -(pw n / 2) ≤ x') (x1' : x' < pw n / 2) (hy : Hid (siz x = y)) (hy' : Hid (siz x' = y)) (hq : Hid (y / c = q)) (hbs : Hid ((siz x % c == 0) = bt)) (hbs' : Hid ((siz x' % c == 0) = bt)) (h0 : Hid (cmpI q q = 0)) (hm : 0 < smg n c) (w : World) (hT : Tab w) :
    Calls Tryz.prog 12 #[.int .u8 a0, .int .u64 a1, .int .u64 a2] w fun e w' => e = .returned (.bool true) ∧ Below w.heap.size w w' := by
  cases bt
  all_goals
    go_enter Tryz.func12, Tryz.ntmps12
    go_wp2_with (first | (go_at_call 14; refine (width_any a0 b0 b1 _).mono ?_; rintro e w' ⟨rfl, rfl⟩) | (go_at_call 15; refine (mask_any _ hn _).mono ?_; rintro e w' ⟨rfl, rfl⟩) | (go_at_call 16; refine (power_any _ _).mono ?_; rintro e w' ⟨rfl, rfl⟩) | (go_at_call 30; refine (signed_any _ _ hn _).mono ?_; rintro e w' ⟨rfl, rfl⟩))
    refine (smagicQ hc _).mono ?_
    rintro e w1 ⟨rfl, hb1⟩
    go_wp2_with fail
    refine (sdivQ hc _ (hT.below hb1)).mono ?_
    rintro e w2 ⟨rfl, hb2⟩
    have H2 := hb1.trans (hb2.mono hb1.size)
    have hsz : (w2.alloc (.cells #[.int .i64 (blen c - 1), .int .u64 (smg n c)] 32)).heap.size = w2.heap.size + 1 := Array.size_push _
    obtain ⟨wb, hwb⟩ : ∃ wb, (w2.alloc (.cells #[.int .i64 (blen c - 1), .int .u64 (smg n c)] 32)).alloc (.cells #[.int .i64 (tz c), .int .u64 (inv n (oddp c)), .int .u64 (sdA n c), .int .u64 (sdM n c)] 36) = wb := ⟨_, rfl⟩
    have hz1 : w2.heap.size + 1 < wb.heap.size := by rw [← hwb]; simp
    have hz0 : w2.heap.size < wb.heap.size := by omega
    have c0_0 : wb.cell? ⟨w2.heap.size, 0, none⟩ = some (.int .i64 (blen c - 1)) := by rw [← hwb, World.cell?_alloc_past _ _ _ (by rw [hsz]; omega), World.cell?_alloc_at _ _ _ _ rfl]; rfl
    have c0_1 : wb.cell? ⟨w2.heap.size, 1, none⟩ = some (.int .u64 (smg n c)) := by rw [← hwb, World.cell?_alloc_past _ _ _ (by rw [hsz]; omega), World.cell?_alloc_at _ _ _ _ rfl]; rfl
    have c0_2 : wb.cell? ⟨w2.heap.size + 1, 0, none⟩ = some (.int .i64 (tz c)) := by rw [← hwb, World.cell?_alloc_at _ _ _ _ hsz.symm]; rfl
    have c0_3 : wb.cell? ⟨w2.heap.size + 1, 1, none⟩ = some (.int .u64 (inv n (oddp c))) := by rw [← hwb, World.cell?_alloc_at _ _ _ _ hsz.symm]; rfl
    have c0_4 : wb.cell? ⟨w2.heap.size + 1, 2, none⟩ = some (.int .u64 (sdA n c)) := by rw [← hwb, World.cell?_alloc_at _ _ _ _ hsz.symm]; rfl
    have c0_5 : wb.cell? ⟨w2.heap.size + 1, 3, none⟩ = some (.int .u64 (sdM n c)) := by rw [← hwb, World.cell?_alloc_at _ _ _ _ hsz.symm]; rfl
    have hbw : Below w.heap.size w wb := by rw [← hwb]; exact (H2.alloc H2.size _).alloc (by rw [hsz]; have := H2.size; omega) _
    clear hsz
    go_wp2_with fail
    clear hwb
    go_region_held3 (fun W => W.cell? ⟨w2.heap.size, 0, none⟩ = some (.int .i64 (blen c - 1)) ∧ W.cell? ⟨w2.heap.size, 1, none⟩ = some (.int .u64 (smg n c)) ∧ W.cell? ⟨w2.heap.size + 1, 0, none⟩ = some (.int .i64 (tz c)) ∧ W.cell? ⟨w2.heap.size + 1, 1, none⟩ = some (.int .u64 (inv n (oddp c))) ∧ W.cell? ⟨w2.heap.size + 1, 2, none⟩ = some (.int .u64 (sdA n c)) ∧ W.cell? ⟨w2.heap.size + 1, 3, none⟩ = some (.int .u64 (sdM n c))) (first | go_keep | trivial) (first
      | (go_at_call_of 23 x; refine (quotientQ hc x y q x0 x1 hy hq _).mono ?_; rintro e w3 ⟨v3, rfl, nv3, hb3⟩; have hB3 : Below wb.heap.size wb w3 := (by first | exact (Below.refl _ _).drew.trans hb3 | exact hb3); have c3_0 : w3.cell? ⟨w2.heap.size, 0, none⟩ = some (.int .i64 (blen c - 1)) := (hB3.cell (p := ⟨w2.heap.size, 0, none⟩) hz0).trans c0_0; have c3_1 : w3.cell? ⟨w2.heap.size, 1, none⟩ = some (.int .u64 (smg n c)) := (hB3.cell (p := ⟨w2.heap.size, 1, none⟩) hz0).trans c0_1; have c3_2 : w3.cell? ⟨w2.heap.size + 1, 0, none⟩ = some (.int .i64 (tz c)) := (hB3.cell (p := ⟨w2.heap.size + 1, 0, none⟩) hz1).trans c0_2; have c3_3 : w3.cell? ⟨w2.heap.size + 1, 1, none⟩ = some (.int .u64 (inv n (oddp c))) := (hB3.cell (p := ⟨w2.heap.size + 1, 1, none⟩) hz1).trans c0_3; have c3_4 : w3.cell? ⟨w2.heap.size + 1, 2, none⟩ = some (.int .u64 (sdA n c)) := (hB3.cell (p := ⟨w2.heap.size + 1, 2, none⟩) hz1).trans c0_4; have c3_5 : w3.cell? ⟨w2.heap.size + 1, 3, none⟩ = some (.int .u64 (sdM n c)) := (hB3.cell (p := ⟨w2.heap.size + 1, 3, none⟩) hz1).trans c0_5)
      | (go_at_call_of 23 x'; refine (quotientQ hc x' y q x0' x1' hy' hq _).mono ?_; rintro e w4 ⟨v4, rfl, nv4, hb4⟩; have hB4 : Below wb.heap.size wb w4 := (by first | exact hB3.trans (hb4.mono hB3.size)); have c4_0 : w4.cell? ⟨w2.heap.size, 0, none⟩ = some (.int .i64 (blen c - 1)) := (hB4.cell (p := ⟨w2.heap.size, 0, none⟩) hz0).trans c0_0; have c4_1 : w4.cell? ⟨w2.heap.size, 1, none⟩ = some (.int .u64 (smg n c)) := (hB4.cell (p := ⟨w2.heap.size, 1, none⟩) hz0).trans c0_1; have c4_2 : w4.cell? ⟨w2.heap.size + 1, 0, none⟩ = some (.int .i64 (tz c)) := (hB4.cell (p := ⟨w2.heap.size + 1, 0, none⟩) hz1).trans c0_2; have c4_3 : w4.cell? ⟨w2.heap.size + 1, 1, none⟩ = some (.int .u64 (inv n (oddp c))) := (hB4.cell (p := ⟨w2.heap.size + 1, 1, none⟩) hz1).trans c0_3; have c4_4 : w4.cell? ⟨w2.heap.size + 1, 2, none⟩ = some (.int .u64 (sdA n c)) := (hB4.cell (p := ⟨w2.heap.size + 1, 2, none⟩) hz1).trans c0_4; have c4_5 : w4.cell? ⟨w2.heap.size + 1, 3, none⟩ = some (.int .u64 (sdM n c)) := (hB4.cell (p := ⟨w2.heap.size + 1, 3, none⟩) hz1).trans c0_5)
      | (go_at_call 17; refine (cmpQ _ _ 15 15 q q 0 h0 (by omega) (by omega) _ (nv3.below hb4) nv4).mono ?_; rintro e w' ⟨rfl, rfl⟩)
      | (go_at_call_of 26 x; refine (dividesSignedQ hc x _ x0 x1 hbs _).mono ?_; rintro e w5 ⟨rfl, hb5⟩; have hB5 : Below wb.heap.size wb w5 := (by first | exact hB4.trans (hb5.mono hB4.size)); have c5_0 : w5.cell? ⟨w2.heap.size, 0, none⟩ = some (.int .i64 (blen c - 1)) := (hB5.cell (p := ⟨w2.heap.size, 0, none⟩) hz0).trans c0_0; have c5_1 : w5.cell? ⟨w2.heap.size, 1, none⟩ = some (.int .u64 (smg n c)) := (hB5.cell (p := ⟨w2.heap.size, 1, none⟩) hz0).trans c0_1; have c5_2 : w5.cell? ⟨w2.heap.size + 1, 0, none⟩ = some (.int .i64 (tz c)) := (hB5.cell (p := ⟨w2.heap.size + 1, 0, none⟩) hz1).trans c0_2; have c5_3 : w5.cell? ⟨w2.heap.size + 1, 1, none⟩ = some (.int .u64 (inv n (oddp c))) := (hB5.cell (p := ⟨w2.heap.size + 1, 1, none⟩) hz1).trans c0_3; have c5_4 : w5.cell? ⟨w2.heap.size + 1, 2, none⟩ = some (.int .u64 (sdA n c)) := (hB5.cell (p := ⟨w2.heap.size + 1, 2, none⟩) hz1).trans c0_4; have c5_5 : w5.cell? ⟨w2.heap.size + 1, 3, none⟩ = some (.int .u64 (sdM n c)) := (hB5.cell (p := ⟨w2.heap.size + 1, 3, none⟩) hz1).trans c0_5)
      | (go_at_call_of 26 x'; refine (dividesSignedQ hc x' _ x0' x1' hbs' _).mono ?_; rintro e w6 ⟨rfl, hb6⟩; have hB6 : Below wb.heap.size wb w6 := (by first | exact hB5.trans (hb6.mono hB5.size)); have c6_0 : w6.cell? ⟨w2.heap.size, 0, none⟩ = some (.int .i64 (blen c - 1)) := (hB6.cell (p := ⟨w2.heap.size, 0, none⟩) hz0).trans c0_0; have c6_1 : w6.cell? ⟨w2.heap.size, 1, none⟩ = some (.int .u64 (smg n c)) := (hB6.cell (p := ⟨w2.heap.size, 1, none⟩) hz0).trans c0_1; have c6_2 : w6.cell? ⟨w2.heap.size + 1, 0, none⟩ = some (.int .i64 (tz c)) := (hB6.cell (p := ⟨w2.heap.size + 1, 0, none⟩) hz1).trans c0_2; have c6_3 : w6.cell? ⟨w2.heap.size + 1, 1, none⟩ = some (.int .u64 (inv n (oddp c))) := (hB6.cell (p := ⟨w2.heap.size + 1, 1, none⟩) hz1).trans c0_3; have c6_4 : w6.cell? ⟨w2.heap.size + 1, 2, none⟩ = some (.int .u64 (sdA n c)) := (hB6.cell (p := ⟨w2.heap.size + 1, 2, none⟩) hz1).trans c0_4; have c6_5 : w6.cell? ⟨w2.heap.size + 1, 3, none⟩ = some (.int .u64 (sdM n c)) := (hB6.cell (p := ⟨w2.heap.size + 1, 3, none⟩) hz1).trans c0_5))
  all_goals go_wp2
  all_goals go_ret
  all_goals exact ⟨rfl, hbw.trans (hB6.mono hbw.size)⟩

theorem sgn_min {n : Int} (hn : isW n) : sgn n (IntKind.u64.wrap (2 ^ (n.toNat - 1))) = -(pw n / 2) := by
  rw [sgn_eq hn]
  have hw : n = 8 ∨ n = 16 ∨ n = 32 ∨ n = 64 := hn
  rcases hw with rfl | rfl | rfl | rfl <;> decide

theorem fnOpposite_walk (a0 a1 a2 : Int) (w0 : (Lit.int .u8 a0).wf = true) (w1 : (Lit.int .u64 a1).wf = true) (w2 : (Lit.int .u64 a2).wf = true) (w : World) (hT : Tab w) :
    Calls Tryz.prog 12 #[.int .u8 a0, .int .u64 a1, .int .u64 a2] w fun e w' => e = .returned (.bool true) ∧ Below w.heap.size w w' := by
  obtain ⟨b0, b1⟩ := bounds_u8 w0
  obtain ⟨b2, b3⟩ := bounds_u64 w1
  obtain ⟨b4, b5⟩ := bounds_u64 w2
  have hn := isW_wid a0 b0 b1
  obtain ⟨n, en⟩ : ∃ n, wid a0 = n := ⟨_, rfl⟩
  rw [en] at hn
  obtain ⟨p0, p1, p2⟩ := pw_pos hn
  obtain ⟨c, ec⟩ : ∃ c, bits BinOp.and IntKind.u64 a1 (msk n / 2) = c := ⟨_, rfl⟩
  obtain ⟨c0, c1⟩ := half_range hn a1 b2 b3
  rw [ec] at c0 c1
  by_cases hz : c = 0
  · subst hz
    exact fnOpposite_zero a0 a1 a2 n b0 b1 hn en ec w
  · have cz : (c == 0) = false := by simpa using hz
    cases hp : powW c with
    | true => exact fnOpposite_pow a0 a1 a2 n c b0 b1 hn en ec cz hp w
    | false =>
      obtain ⟨t0, t1, -⟩ := tz_lt hn c (by omega) (by omega)
      obtain ⟨l1, l2⟩ := low_wrap hn c c0 (by omega)
      obtain ⟨x0, x1, -⟩ := sgn_range hn a2
      obtain ⟨g0, g1⟩ := isW_range hn
      have hmn := sgn_min hn
      by_cases hx : sgn n a2 = -(pw n / 2)
      · exact fnOpposite_min a0 a1 a2 n c _ b0 b1 hn en g0 g1 ec cz hp hx hmn w
      · have hcc : Cs n c := ⟨hn, by omega, c1, not_pow c (by omega) (by omega) hp⟩
        obtain ⟨u0, u1⟩ := smg_range hn c hcc.c0 hcc.c1 hcc.p
        have hsz : siz (-sgn n a2) = siz (sgn n a2) := by unfold siz; split <;> split <;> omega
        exact fnOpposite_main a0 a1 a2 n c _ _ _ _ _ _ b0 b1 hn en g0 g1 ec rfl hmn (by simpa using hx) hcc cz hp (by rw [IntWalk.i64_left]; exact IntWalk.wrap64_in c ⟨by omega, by omega⟩) (IntWalk.wrap64_in c ⟨by omega, by omega⟩) x0 x1 rfl (by rw [IntWalk.i64_left]; exact IntWalk.wrap64_in _ ⟨by omega, by omega⟩) (by rw [IntWalk.i64_left]; exact IntWalk.wrap64_in _ ⟨by omega, by omega⟩) (by omega) (by omega) (Lib.hid rfl) (Lib.hid hsz) (Lib.hid rfl) (Lib.hid rfl) (Lib.hid (by rw [hsz])) (Lib.hid (cmpI_eq rfl)) (by omega) w hT
end Go.Proofs.YtjejffijhlppmaaGreatDoor
