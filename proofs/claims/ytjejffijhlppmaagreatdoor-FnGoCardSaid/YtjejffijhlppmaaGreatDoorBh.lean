/-
  The contracts of Int.Add at one, two and three words and one word, in place.
-/
import Derived.Test.YtjejffijhlppmaaGreatDoorBg
namespace Go.Proofs.YtjejffijhlppmaaGreatDoor
open Go.Dv Go.RowKit
set_option linter.unusedVariables false

set_option maxRecDepth 100000 in
set_option maxHeartbeats 4000000 in
theorem intAdd_1 (p q a yb : Nat) (x0 z y2 y3 y4 y5 d : Int) (x00 : 0 ≤ x0) (x01 : x0 < 18446744073709551616) (d0 : 0 ≤ d) (d1 : d < 18446744073709551616) (hs : x0 + d < 18446744073709551616) (S : Int) (hS : x0 + d = S) (hnz : (S == 0) = false) (w : World)
    (hP : w.heap[p]? = some (.cells #[.bool false, .slice (some ⟨a, 0, none⟩) 1 6] 78 (0, 0))) (hQ : w.heap[q]? = some (.cells #[.bool false, .slice (some ⟨yb, 0, none⟩) 1 1] 78 (0, 0)))
    (hA : w.heap[a]? = some (.cells #[.int .u64 x0, .int .u64 z, .int .u64 y2, .int .u64 y3, .int .u64 y4, .int .u64 y5] 89 (0, 0))) (cy : w.cell? ⟨yb, 0, none⟩ = some (.int .u64 d)) (hne : a ≠ yb) (hpa : p ≠ a) :
    Calls Tryz.prog 51 #[.pointer (some ⟨p, 0, none⟩), .pointer (some ⟨p, 0, none⟩), .pointer (some ⟨q, 0, none⟩)] w fun e w' =>
      e = .returned (.pointer (some ⟨p, 0, none⟩)) ∧ ∃ k, (((((w.setCell ⟨a, 0, none⟩ (.int .u64 S)).setCell ⟨a, 1, none⟩ (.int .u64 0)).setCell ⟨p, 1, none⟩ (.slice (some ⟨a, 0, none⟩) 1 6)).setCell ⟨p, 0, none⟩ (.bool false)).drewN k) = w' := by
  have p0 := blk_cell hP 0 rfl
  have p1 := blk_cell hP 1 rfl
  have f0 := blk_frozen hP 0
  have f1 := blk_frozen hP 1
  have q0 := blk_cell hQ 0 rfl
  have q1 := blk_cell hQ 1 rfl
  have HA := Lib.hid hA
  have HS := Lib.hid (And.intro hS hnz)
  have HP := Lib.hid hP
  clear hP hQ hA hS hnz
  go_enter Tryz.func51, Tryz.ntmps51
  go_wp2_with fail
  go_quiet (fail)
  go_wp2_with fail
  go_region_with (first | (go_at_call 62; refine (add_1 a yb 1 x0 z y2 y3 y4 y5 d x00 x01 d0 d1 hs S HS.out.1 HS.out.2 _ ?_ ?_ hne (by omega)).mono ?_; (exact HA.out); (exact cy); rintro e w' ⟨rfl, k, rfl⟩))
  all_goals go_wp2
  all_goals go_ret
  all_goals refine ⟨rfl, ?_⟩
  all_goals (try simp only [World.drewN_drewN])
  all_goals exact ⟨_, rfl⟩

set_option maxRecDepth 100000 in
set_option maxHeartbeats 4000000 in
theorem intAdd_2 (p q a yb : Nat) (x0 x1 z y3 y4 y5 y6 d : Int) (x00 : 0 ≤ x0) (x01 : x0 < 18446744073709551616) (x10 : 0 ≤ x1) (x11 : x1 < 18446744073709551616) (d0 : 0 ≤ d) (d1 : d < 18446744073709551616) (hs : x0 + d < 18446744073709551616) (S : Int) (hS : x0 + d = S) (hnz : (x1 == 0) = false) (w : World)
    (hP : w.heap[p]? = some (.cells #[.bool false, .slice (some ⟨a, 0, none⟩) 2 7] 78 (0, 0))) (hQ : w.heap[q]? = some (.cells #[.bool false, .slice (some ⟨yb, 0, none⟩) 1 1] 78 (0, 0)))
    (hA : w.heap[a]? = some (.cells #[.int .u64 x0, .int .u64 x1, .int .u64 z, .int .u64 y3, .int .u64 y4, .int .u64 y5, .int .u64 y6] 89 (0, 0))) (cy : w.cell? ⟨yb, 0, none⟩ = some (.int .u64 d)) (hne : a ≠ yb) (hpa : p ≠ a) :
    Calls Tryz.prog 51 #[.pointer (some ⟨p, 0, none⟩), .pointer (some ⟨p, 0, none⟩), .pointer (some ⟨q, 0, none⟩)] w fun e w' =>
      e = .returned (.pointer (some ⟨p, 0, none⟩)) ∧ ∃ k, ((((((w.setCell ⟨a, 0, none⟩ (.int .u64 S)).setCell ⟨a, 1, none⟩ (.int .u64 x1)).setCell ⟨a, 2, none⟩ (.int .u64 0)).setCell ⟨p, 1, none⟩ (.slice (some ⟨a, 0, none⟩) 2 7)).setCell ⟨p, 0, none⟩ (.bool false)).drewN k) = w' := by
  have p0 := blk_cell hP 0 rfl
  have p1 := blk_cell hP 1 rfl
  have f0 := blk_frozen hP 0
  have f1 := blk_frozen hP 1
  have q0 := blk_cell hQ 0 rfl
  have q1 := blk_cell hQ 1 rfl
  have HA := Lib.hid hA
  have HS := Lib.hid (And.intro hS hnz)
  have HP := Lib.hid hP
  clear hP hQ hA hS hnz
  go_enter Tryz.func51, Tryz.ntmps51
  go_wp2_with fail
  go_quiet (fail)
  go_wp2_with fail
  go_region_with (first | (go_at_call 62; refine (add_2 a yb 1 x0 x1 z y3 y4 y5 y6 d x00 x01 x10 x11 d0 d1 hs S HS.out.1 HS.out.2 _ ?_ ?_ hne (by omega)).mono ?_; (exact HA.out); (exact cy); rintro e w' ⟨rfl, k, rfl⟩))
  all_goals go_wp2
  all_goals go_ret
  all_goals refine ⟨rfl, ?_⟩
  all_goals (try simp only [World.drewN_drewN])
  all_goals exact ⟨_, rfl⟩

set_option maxRecDepth 100000 in
set_option maxHeartbeats 4000000 in
theorem intAdd_3 (p q a yb : Nat) (x0 x1 x2 z y4 y5 y6 y7 d : Int) (x00 : 0 ≤ x0) (x01 : x0 < 18446744073709551616) (x10 : 0 ≤ x1) (x11 : x1 < 18446744073709551616) (x20 : 0 ≤ x2) (x21 : x2 < 18446744073709551616) (d0 : 0 ≤ d) (d1 : d < 18446744073709551616) (hs : x0 + d < 18446744073709551616) (S : Int) (hS : x0 + d = S) (hnz : (x2 == 0) = false) (w : World)
    (hP : w.heap[p]? = some (.cells #[.bool false, .slice (some ⟨a, 0, none⟩) 3 8] 78 (0, 0))) (hQ : w.heap[q]? = some (.cells #[.bool false, .slice (some ⟨yb, 0, none⟩) 1 1] 78 (0, 0)))
    (hA : w.heap[a]? = some (.cells #[.int .u64 x0, .int .u64 x1, .int .u64 x2, .int .u64 z, .int .u64 y4, .int .u64 y5, .int .u64 y6, .int .u64 y7] 89 (0, 0))) (cy : w.cell? ⟨yb, 0, none⟩ = some (.int .u64 d)) (hne : a ≠ yb) (hpa : p ≠ a) :
    Calls Tryz.prog 51 #[.pointer (some ⟨p, 0, none⟩), .pointer (some ⟨p, 0, none⟩), .pointer (some ⟨q, 0, none⟩)] w fun e w' =>
      e = .returned (.pointer (some ⟨p, 0, none⟩)) ∧ ∃ k, ((((((w.setCell ⟨a, 0, none⟩ (.int .u64 S)).setCell ⟨a, 1, none⟩ (.int .u64 x1)).setCell ⟨a, 3, none⟩ (.int .u64 0)).setCell ⟨p, 1, none⟩ (.slice (some ⟨a, 0, none⟩) 3 8)).setCell ⟨p, 0, none⟩ (.bool false)).drewN k) = w' := by
  have p0 := blk_cell hP 0 rfl
  have p1 := blk_cell hP 1 rfl
  have f0 := blk_frozen hP 0
  have f1 := blk_frozen hP 1
  have q0 := blk_cell hQ 0 rfl
  have q1 := blk_cell hQ 1 rfl
  have HA := Lib.hid hA
  have HS := Lib.hid (And.intro hS hnz)
  have HP := Lib.hid hP
  clear hP hQ hA hS hnz
  go_enter Tryz.func51, Tryz.ntmps51
  go_wp2_with fail
  go_quiet (fail)
  go_wp2_with fail
  go_region_with (first | (go_at_call 62; refine (add_3 a yb 1 x0 x1 x2 z y4 y5 y6 y7 d x00 x01 x10 x11 x20 x21 d0 d1 hs S HS.out.1 HS.out.2 _ ?_ ?_ hne (by omega)).mono ?_; (exact HA.out); (exact cy); rintro e w' ⟨rfl, k, rfl⟩))
  all_goals go_wp2
  all_goals go_ret
  all_goals refine ⟨rfl, ?_⟩
  all_goals (try simp only [World.drewN_drewN])
  all_goals exact ⟨_, rfl⟩
end Go.Proofs.YtjejffijhlppmaaGreatDoor
