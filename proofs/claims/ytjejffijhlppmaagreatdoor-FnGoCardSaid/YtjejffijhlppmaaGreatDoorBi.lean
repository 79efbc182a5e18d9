/-
  The contracts of Int.Sub: one, two and three words less the number 1, in place.
-/
import Derived.Test.YtjejffijhlppmaaGreatDoorBg
namespace Go.Proofs.YtjejffijhlppmaaGreatDoor
open Go.Dv Go.RowKit
set_option linter.unusedVariables false

theorem quietDA {P : Program} {f : FuncId} {args : Array Value} {w : World} {a n : Nat} {v : Value}
    (h : Calls P f args (w.drewN (a + n)) fun e w' => e = .returned v ∧ ∃ q, (w.drewN (a + n)).drewN q = w') :
    Calls P f args (w.drewN (a + n)) fun e w'' => e = .returned v ∧ ∃ m, w'' = w.drewN (a + m) :=
  h.mono fun _ _ ⟨he, q, hm⟩ => ⟨he, n + q, by rw [← hm, World.drewN_drewN, Nat.add_assoc]⟩

set_option maxRecDepth 100000 in
set_option maxHeartbeats 4000000 in
theorem intSub_1 (p q a yb : Nat) (x0 y1 y2 y3 y4 y5 : Int) (x00 : 0 ≤ x0) (x01 : x0 < 18446744073709551616) (R : Int) (hR : sb x0 1 0 = R) (hb : bw x0 1 0 = 0) (hnz : (R == 0) = false) (hgt : 1 < x0) (w : World)
    (hP : w.heap[p]? = some (.cells #[.bool false, .slice (some ⟨a, 0, none⟩) 1 6] 78 (0, 0))) (hQ : w.heap[q]? = some (.cells #[.bool false, .slice (some ⟨yb, 0, none⟩) 1 1] 78 (0, 0)))
    (hA : w.heap[a]? = some (.cells #[.int .u64 x0, .int .u64 y1, .int .u64 y2, .int .u64 y3, .int .u64 y4, .int .u64 y5] 89 (0, 0))) (cy : w.cell? ⟨yb, 0, none⟩ = some (.int .u64 1)) (hne : a ≠ yb) (hpa : p ≠ a) :
    Calls Tryz.prog 52 #[.pointer (some ⟨p, 0, none⟩), .pointer (some ⟨p, 0, none⟩), .pointer (some ⟨q, 0, none⟩)] w fun e w' =>
      e = .returned (.pointer (some ⟨p, 0, none⟩)) ∧ ∃ k, ((((w.setCell ⟨a, 0, none⟩ (.int .u64 R)).setCell ⟨p, 1, none⟩ (.slice (some ⟨a, 0, none⟩) 1 6)).setCell ⟨p, 0, none⟩ (.bool false)).drewN k) = w' := by
  have p0 := blk_cell hP 0 rfl
  have p1 := blk_cell hP 1 rfl
  have f0 := blk_frozen hP 0
  have f1 := blk_frozen hP 1
  have q0 := blk_cell hQ 0 rfl
  have q1 := blk_cell hQ 1 rfl
  have c0 := blk_cell hA 0 rfl
  have HA := Lib.hid hA
  have HS := Lib.hid (And.intro hR (And.intro hb hnz))
  clear hP hQ hA hR hb hnz
  go_enter Tryz.func52, Tryz.ntmps52
  go_wp2_with fail
  go_quiet (fail)
  go_wp2_with fail
  go_quiet (first | (go_at_call 63; exact quietD (cmp_one a yb _ _ x0 hgt _ c0 cy)) | (go_at_call 63; exact quietDA (cmp_one a yb _ _ x0 hgt _ c0 cy)))
  go_wp2_with fail
  go_region_with (first | (go_at_call 64; refine (sub_1 a yb 1 x0 y1 y2 y3 y4 y5 x00 x01 R HS.out.1 HS.out.2.1 HS.out.2.2 _ ?_ ?_ hne (by omega)).mono ?_; (exact HA.out); (exact cy); rintro e w' ⟨rfl, k, rfl⟩))
  all_goals go_wp2
  all_goals go_ret
  all_goals refine ⟨rfl, ?_⟩
  all_goals (try simp only [World.drewN_drewN])
  all_goals exact ⟨_, rfl⟩

set_option maxRecDepth 100000 in
set_option maxHeartbeats 4000000 in
theorem intSub_2 (p q a yb : Nat) (x0 x1 y2 y3 y4 y5 y6 : Int) (x00 : 0 ≤ x0) (x01 : x0 < 18446744073709551616) (x10 : 0 ≤ x1) (x11 : x1 < 18446744073709551616) (R : Int) (hR : sb x0 1 0 = R) (hb : bw x0 1 0 = 0) (hnz : (x1 == 0) = false) (w : World)
    (hP : w.heap[p]? = some (.cells #[.bool false, .slice (some ⟨a, 0, none⟩) 2 7] 78 (0, 0))) (hQ : w.heap[q]? = some (.cells #[.bool false, .slice (some ⟨yb, 0, none⟩) 1 1] 78 (0, 0)))
    (hA : w.heap[a]? = some (.cells #[.int .u64 x0, .int .u64 x1, .int .u64 y2, .int .u64 y3, .int .u64 y4, .int .u64 y5, .int .u64 y6] 89 (0, 0))) (cy : w.cell? ⟨yb, 0, none⟩ = some (.int .u64 1)) (hne : a ≠ yb) (hpa : p ≠ a) :
    Calls Tryz.prog 52 #[.pointer (some ⟨p, 0, none⟩), .pointer (some ⟨p, 0, none⟩), .pointer (some ⟨q, 0, none⟩)] w fun e w' =>
      e = .returned (.pointer (some ⟨p, 0, none⟩)) ∧ ∃ k, (((((w.setCell ⟨a, 0, none⟩ (.int .u64 R)).setCell ⟨a, 1, none⟩ (.int .u64 x1)).setCell ⟨p, 1, none⟩ (.slice (some ⟨a, 0, none⟩) 2 7)).setCell ⟨p, 0, none⟩ (.bool false)).drewN k) = w' := by
  have p0 := blk_cell hP 0 rfl
  have p1 := blk_cell hP 1 rfl
  have f0 := blk_frozen hP 0
  have f1 := blk_frozen hP 1
  have q0 := blk_cell hQ 0 rfl
  have q1 := blk_cell hQ 1 rfl
  have c0 := blk_cell hA 0 rfl
  have HA := Lib.hid hA
  have HS := Lib.hid (And.intro hR (And.intro hb hnz))
  clear hP hQ hA hR hb hnz
  go_enter Tryz.func52, Tryz.ntmps52
  go_wp2_with fail
  go_quiet (fail)
  go_wp2_with fail
  go_quiet (first | (go_at_call 63; exact quietS (cmp_more _ _ 2 _ _ (by omega) _)) | (go_at_call 63; exact quietA (cmp_more _ _ 2 _ _ (by omega) _)))
  go_wp2_with fail
  go_region_with (first | (go_at_call 64; refine (sub_2 a yb 1 x0 x1 y2 y3 y4 y5 y6 x00 x01 x10 x11 R HS.out.1 HS.out.2.1 HS.out.2.2 _ ?_ ?_ hne (by omega)).mono ?_; (exact HA.out); (exact cy); rintro e w' ⟨rfl, k, rfl⟩))
  all_goals go_wp2
  all_goals go_ret
  all_goals refine ⟨rfl, ?_⟩
  all_goals (try simp only [World.drewN_drewN])
  all_goals exact ⟨_, rfl⟩

set_option maxRecDepth 100000 in
set_option maxHeartbeats 4000000 in
theorem intSub_3 (p q a yb : Nat) (x0 x1 x2 y3 y4 y5 y6 y7 : Int) (x00 : 0 ≤ x0) (x01 : x0 < 18446744073709551616) (x10 : 0 ≤ x1) (x11 : x1 < 18446744073709551616) (x20 : 0 ≤ x2) (x21 : x2 < 18446744073709551616) (R : Int) (hR : sb x0 1 0 = R) (hb : bw x0 1 0 = 0) (hnz : (x2 == 0) = false) (w : World)
    (hP : w.heap[p]? = some (.cells #[.bool false, .slice (some ⟨a, 0, none⟩) 3 8] 78 (0, 0))) (hQ : w.heap[q]? = some (.cells #[.bool false, .slice (some ⟨yb, 0, none⟩) 1 1] 78 (0, 0)))
    (hA : w.heap[a]? = some (.cells #[.int .u64 x0, .int .u64 x1, .int .u64 x2, .int .u64 y3, .int .u64 y4, .int .u64 y5, .int .u64 y6, .int .u64 y7] 89 (0, 0))) (cy : w.cell? ⟨yb, 0, none⟩ = some (.int .u64 1)) (hne : a ≠ yb) (hpa : p ≠ a) :
    Calls Tryz.prog 52 #[.pointer (some ⟨p, 0, none⟩), .pointer (some ⟨p, 0, none⟩), .pointer (some ⟨q, 0, none⟩)] w fun e w' =>
      e = .returned (.pointer (some ⟨p, 0, none⟩)) ∧ ∃ k, (((((w.setCell ⟨a, 0, none⟩ (.int .u64 R)).setCell ⟨a, 1, none⟩ (.int .u64 x1)).setCell ⟨p, 1, none⟩ (.slice (some ⟨a, 0, none⟩) 3 8)).setCell ⟨p, 0, none⟩ (.bool false)).drewN k) = w' := by
  have p0 := blk_cell hP 0 rfl
  have p1 := blk_cell hP 1 rfl
  have f0 := blk_frozen hP 0
  have f1 := blk_frozen hP 1
  have q0 := blk_cell hQ 0 rfl
  have q1 := blk_cell hQ 1 rfl
  have c0 := blk_cell hA 0 rfl
  have HA := Lib.hid hA
  have HS := Lib.hid (And.intro hR (And.intro hb hnz))
  clear hP hQ hA hR hb hnz
  go_enter Tryz.func52, Tryz.ntmps52
  go_wp2_with fail
  go_quiet (fail)
  go_wp2_with fail
  go_quiet (first | (go_at_call 63; exact quietS (cmp_more _ _ 3 _ _ (by omega) _)) | (go_at_call 63; exact quietA (cmp_more _ _ 3 _ _ (by omega) _)))
  go_wp2_with fail
  go_region_with (first | (go_at_call 64; refine (sub_3 a yb 1 x0 x1 x2 y3 y4 y5 y6 y7 x00 x01 x10 x11 x20 x21 R HS.out.1 HS.out.2.1 HS.out.2.2 _ ?_ ?_ hne (by omega)).mono ?_; (exact HA.out); (exact cy); rintro e w' ⟨rfl, k, rfl⟩))
  all_goals go_wp2
  all_goals go_ret
  all_goals refine ⟨rfl, ?_⟩
  all_goals (try simp only [World.drewN_drewN])
  all_goals exact ⟨_, rfl⟩
end Go.Proofs.YtjejffijhlppmaaGreatDoor
