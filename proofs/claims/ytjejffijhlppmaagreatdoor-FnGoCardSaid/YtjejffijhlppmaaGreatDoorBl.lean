/-
  The contracts of divWVW: one, two and three words by one, in place.
-/
import Derived.Test.YtjejffijhlppmaaGreatDoorBk
namespace Go.Proofs.YtjejffijhlppmaaGreatDoor
open Go.Dv Go.RowKit
set_option linter.unusedVariables false

set_option maxHeartbeats 1000000 in
theorem divWVW_1 (b c : Nat) (x0 y : Int) (h0 : 0 ≤ x0) (h1 : x0 < 18446744073709551616) (hy0 : 0 < y) (hy : y < 18446744073709551616) (w : World)
    (c0 : w.cell? ⟨b, 0, none⟩ = some (.int .u64 x0)) (f0 : w.frozen? ⟨b, 0, none⟩ = false) :
    Calls Tryz.prog 99 #[.slice (some ⟨b, 0, none⟩) 1 c, .int .u64 0, .slice (some ⟨b, 0, none⟩) 1 c, .int .u64 y] w fun e w' =>
      e = .returned (.int .u64 (x0 % y)) ∧ ∃ k, (w.setCell ⟨b, 0, none⟩ (.int .u64 (x0 / y))).drewN k = w' := by
  go_enter Tryz.func99, Tryz.ntmps99
  go_wp2_with ((go_at_call 108; refine (bitsDiv_zero x0 y h0 h1 hy0 hy _).mono ?_; rintro e w' ⟨rfl, k, rfl⟩))
  go_ret
  exact ⟨rfl, _, rfl⟩

set_option maxHeartbeats 4000000 in
theorem divWVW_2 (b c : Nat) (x0 x1 y q1 r1 q0 r0 : Int) (h0 : 0 ≤ x0) (h1 : x0 < 18446744073709551616) (g0 : 0 ≤ x1) (g1 : x1 < 18446744073709551616) (hy0 : 0 < y) (hy : y < 18446744073709551616)
    (hq1 : x1 / y = q1) (hr1 : x1 % y = r1) (hq0 : (r1 * 18446744073709551616 + x0) / y = q0) (hr0 : (r1 * 18446744073709551616 + x0) % y = r0) (w : World)
    (c0 : w.cell? ⟨b, 0, none⟩ = some (.int .u64 x0)) (f0 : w.frozen? ⟨b, 0, none⟩ = false) (c1 : w.cell? ⟨b, 1, none⟩ = some (.int .u64 x1)) (f1 : w.frozen? ⟨b, 1, none⟩ = false) :
    Calls Tryz.prog 99 #[.slice (some ⟨b, 0, none⟩) 2 c, .int .u64 0, .slice (some ⟨b, 0, none⟩) 2 c, .int .u64 y] w fun e w' =>
      e = .returned (.int .u64 r0) ∧ ∃ k, ((w.setCell ⟨b, 1, none⟩ (.int .u64 q1)).setCell ⟨b, 0, none⟩ (.int .u64 q0)).drewN k = w' := by
  have k0 : 0 ≤ r1 := by rw [← hr1]; exact Int.emod_nonneg _ (by omega)
  have k1 : r1 < y := by rw [← hr1]; exact Int.emod_lt_of_pos _ hy0
  have H1 := Lib.hid (And.intro hq1 hr1)
  have H0 := Lib.hid (And.intro hq0 hr0)
  clear hq1 hr1 hq0 hr0
  go_enter Tryz.func99, Tryz.ntmps99
  go_wp2_with ((go_at_call 109; refine (reciprocalWord_any y hy0 hy _).mono ?_; rintro e w' ⟨rfl, k, rfl⟩))
  refine wp_loop_rounds 3 ?_
  rw [rounds_succ]
  go_wp2_with ((go_at_call 110; refine (divWW_any 0 x1 y (by omega) hy0 (by omega) (by omega) hy0 hy _).mono ?_; rintro e w' ⟨rfl, rfl⟩; rw [Int.zero_mul, Int.zero_add, H1.out.1, H1.out.2]))
  rw [rounds_succ]
  go_wp2_with ((go_at_call 110; refine (divWW_any r1 x0 y k0 k1 (by omega) (by omega) hy0 hy _).mono ?_; rintro e w' ⟨rfl, rfl⟩; rw [H0.out.1, H0.out.2]))
  rw [rounds_succ]
  go_wp2_with fail
  go_ret
  exact ⟨rfl, _, rfl⟩

set_option maxHeartbeats 4000000 in
theorem divWVW_3 (b c : Nat) (x0 x1 x2 y q2 r2 q1 r1 q0 r0 : Int) (h0 : 0 ≤ x0) (h1 : x0 < 18446744073709551616) (g0 : 0 ≤ x1) (g1 : x1 < 18446744073709551616) (i0 : 0 ≤ x2) (i1 : x2 < 18446744073709551616) (hy0 : 0 < y) (hy : y < 18446744073709551616)
    (hq2 : x2 / y = q2) (hr2 : x2 % y = r2) (hq1 : (r2 * 18446744073709551616 + x1) / y = q1) (hr1 : (r2 * 18446744073709551616 + x1) % y = r1) (hq0 : (r1 * 18446744073709551616 + x0) / y = q0) (hr0 : (r1 * 18446744073709551616 + x0) % y = r0) (w : World)
    (c0 : w.cell? ⟨b, 0, none⟩ = some (.int .u64 x0)) (f0 : w.frozen? ⟨b, 0, none⟩ = false) (c1 : w.cell? ⟨b, 1, none⟩ = some (.int .u64 x1)) (f1 : w.frozen? ⟨b, 1, none⟩ = false) (c2 : w.cell? ⟨b, 2, none⟩ = some (.int .u64 x2)) (f2 : w.frozen? ⟨b, 2, none⟩ = false) :
    Calls Tryz.prog 99 #[.slice (some ⟨b, 0, none⟩) 3 c, .int .u64 0, .slice (some ⟨b, 0, none⟩) 3 c, .int .u64 y] w fun e w' =>
      e = .returned (.int .u64 r0) ∧ ∃ k, (((w.setCell ⟨b, 2, none⟩ (.int .u64 q2)).setCell ⟨b, 1, none⟩ (.int .u64 q1)).setCell ⟨b, 0, none⟩ (.int .u64 q0)).drewN k = w' := by
  have j0 : 0 ≤ r2 := by rw [← hr2]; exact Int.emod_nonneg _ (by omega)
  have j1 : r2 < y := by rw [← hr2]; exact Int.emod_lt_of_pos _ hy0
  have k0 : 0 ≤ r1 := by rw [← hr1]; exact Int.emod_nonneg _ (by omega)
  have k1 : r1 < y := by rw [← hr1]; exact Int.emod_lt_of_pos _ hy0
  have H2 := Lib.hid (And.intro hq2 hr2)
  have H1 := Lib.hid (And.intro hq1 hr1)
  have H0 := Lib.hid (And.intro hq0 hr0)
  clear hq2 hr2 hq1 hr1 hq0 hr0
  go_enter Tryz.func99, Tryz.ntmps99
  go_wp2_with ((go_at_call 109; refine (reciprocalWord_any y hy0 hy _).mono ?_; rintro e w' ⟨rfl, k, rfl⟩))
  refine wp_loop_rounds 4 ?_
  rw [rounds_succ]
  go_wp2_with ((go_at_call 110; refine (divWW_any 0 x2 y (by omega) hy0 (by omega) (by omega) hy0 hy _).mono ?_; rintro e w' ⟨rfl, rfl⟩; rw [Int.zero_mul, Int.zero_add, H2.out.1, H2.out.2]))
  rw [rounds_succ]
  go_wp2_with ((go_at_call 110; refine (divWW_any r2 x1 y j0 j1 (by omega) (by omega) hy0 hy _).mono ?_; rintro e w' ⟨rfl, rfl⟩; rw [H1.out.1, H1.out.2]))
  rw [rounds_succ]
  go_wp2_with ((go_at_call 110; refine (divWW_any r1 x0 y k0 k1 (by omega) (by omega) hy0 hy _).mono ?_; rintro e w' ⟨rfl, rfl⟩; rw [H0.out.1, H0.out.2]))
  rw [rounds_succ]
  go_wp2_with fail
  go_ret
  exact ⟨rfl, _, rfl⟩
end Go.Proofs.YtjejffijhlppmaaGreatDoor
