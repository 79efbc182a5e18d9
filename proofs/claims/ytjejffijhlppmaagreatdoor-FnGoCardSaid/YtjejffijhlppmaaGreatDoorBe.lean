/-
  The contracts of nat.sub (one, two and three words less the number 1, in place) and of nat.cmp with the number 1.
-/
import Derived.Test.YtjejffijhlppmaaGreatDoorBd
namespace Go.Proofs.YtjejffijhlppmaaGreatDoor
open Go.Dv Go.RowKit
set_option linter.unusedVariables false

set_option maxHeartbeats 1000000 in
theorem sub_1 (a yb yc : Nat) (x0 y1 y2 y3 y4 y5 : Int) (x00 : 0 ≤ x0) (x01 : x0 < 18446744073709551616) (R : Int) (hR : sb x0 1 0 = R) (hb : bw x0 1 0 = 0) (hnz : (R == 0) = false) (w : World)
    (hA : w.heap[a]? = some (.cells #[.int .u64 x0, .int .u64 y1, .int .u64 y2, .int .u64 y3, .int .u64 y4, .int .u64 y5] 89 (0, 0))) (cy : w.cell? ⟨yb, 0, none⟩ = some (.int .u64 1)) (hne : a ≠ yb) (hyc : 1 ≤ yc) :
    Calls Tryz.prog 64 #[.slice (some ⟨a, 0, none⟩) 1 6, .slice (some ⟨a, 0, none⟩) 1 6, .slice (some ⟨yb, 0, none⟩) 1 yc] w fun e w' =>
      e = .returned (.slice (some ⟨a, 0, none⟩) 1 6) ∧ ∃ k, (w.setCell ⟨a, 0, none⟩ (.int .u64 R)).drewN k = w' := by
  have c0 := blk_cell hA 0 rfl
  have f0 := blk_frozen hA 0
  have hA1 := blk_set hA 0 (.int .u64 R)
  have HF := Lib.hid hA1
  clear hA1
  have HN := Lib.hid hnz
  clear hA hnz
  go_enter Tryz.func64, Tryz.ntmps64
  go_wp2_with (first | (go_at_call 72; refine (make_reuse _ 1 6 1 (by omega) _).mono ?_; rintro e w' ⟨rfl, rfl⟩))
  go_region_with (first | (go_at_call 81; refine (subVV_one a a yb _ _ _ x0 1 x00 x01 (by omega) (by omega) _ ?_ ?_ ?_ (.int .u64 x0) ?_).mono ?_; (exact c0); (exact cy); (exact f0); (exact c0); rintro e w' ⟨rfl, k, rfl⟩))
  go_wp2_with fail
  refine (norm_any a 6 1 1 (fun j => if j = 0 then R else 0) _ ?hc (by omega) (by omega) (by omega) ?hz ?hn).mono ?_
  case hc =>
    intro j hj
    have hj2 : j = 0 := by omega
    rcases hj2 with rfl <;> exact blk_cell (blk_drewN HF.out _) _ rfl
  case hz =>
    intro j h1 h2
    omega
  case hn => intro _; exact HN.out
  rintro e w' ⟨rfl, rfl⟩
  go_wp2
  go_ret
  exact ⟨rfl, _, rfl⟩

set_option maxHeartbeats 1000000 in
theorem sub_2 (a yb yc : Nat) (x0 x1 y2 y3 y4 y5 y6 : Int) (x00 : 0 ≤ x0) (x01 : x0 < 18446744073709551616) (x10 : 0 ≤ x1) (x11 : x1 < 18446744073709551616) (R : Int) (hR : sb x0 1 0 = R) (hb : bw x0 1 0 = 0) (hnz : (x1 == 0) = false) (w : World)
    (hA : w.heap[a]? = some (.cells #[.int .u64 x0, .int .u64 x1, .int .u64 y2, .int .u64 y3, .int .u64 y4, .int .u64 y5, .int .u64 y6] 89 (0, 0))) (cy : w.cell? ⟨yb, 0, none⟩ = some (.int .u64 1)) (hne : a ≠ yb) (hyc : 1 ≤ yc) :
    Calls Tryz.prog 64 #[.slice (some ⟨a, 0, none⟩) 2 7, .slice (some ⟨a, 0, none⟩) 2 7, .slice (some ⟨yb, 0, none⟩) 1 yc] w fun e w' =>
      e = .returned (.slice (some ⟨a, 0, none⟩) 2 7) ∧ ∃ k, ((w.setCell ⟨a, 0, none⟩ (.int .u64 R)).setCell ⟨a, 1, none⟩ (.int .u64 x1)).drewN k = w' := by
  have c0 := blk_cell hA 0 rfl
  have f0 := blk_frozen hA 0
  have hA1 := blk_set hA 0 (.int .u64 R)
  have c1_1 := blk_cell hA1 1 rfl
  have f1_1 := blk_frozen hA1 1
  have hA2 := blk_set hA1 1 (.int .u64 x1)
  have HF := Lib.hid hA2
  clear hA1 hA2
  have HN := Lib.hid hnz
  clear hA hnz
  go_enter Tryz.func64, Tryz.ntmps64
  go_wp2_with (first | (go_at_call 72; refine (make_reuse _ 2 7 2 (by omega) _).mono ?_; rintro e w' ⟨rfl, rfl⟩))
  go_region_with (first | (go_at_call 81; refine (subVV_one a a yb _ _ _ x0 1 x00 x01 (by omega) (by omega) _ ?_ ?_ ?_ (.int .u64 x0) ?_).mono ?_; (exact c0); (exact cy); (exact f0); (exact c0); rintro e w' ⟨rfl, k, rfl⟩))
  go_wp2_with fail
  go_region_with (first | (go_at_call 82; refine (subVW_zero a 1 1 _ (by omega) x1 x10 x11 _ ?_ ?_).mono ?_; (exact c1_1); (exact f1_1); rintro e w' ⟨rfl, k2, rfl⟩))
  go_wp2_with fail
  refine (norm_any a 7 2 2 (fun j => if j = 0 then R else if j = 1 then x1 else 0) _ ?hc (by omega) (by omega) (by omega) ?hz ?hn).mono ?_
  case hc =>
    intro j hj
    have hj2 : j = 0 ∨ j = 1 := by omega
    rcases hj2 with rfl | rfl <;> exact blk_cell (blk_drewN HF.out _) _ rfl
  case hz =>
    intro j h1 h2
    omega
  case hn => intro _; exact HN.out
  rintro e w' ⟨rfl, rfl⟩
  go_wp2
  go_ret
  exact ⟨rfl, _, rfl⟩

set_option maxHeartbeats 1000000 in
theorem sub_3 (a yb yc : Nat) (x0 x1 x2 y3 y4 y5 y6 y7 : Int) (x00 : 0 ≤ x0) (x01 : x0 < 18446744073709551616) (x10 : 0 ≤ x1) (x11 : x1 < 18446744073709551616) (x20 : 0 ≤ x2) (x21 : x2 < 18446744073709551616) (R : Int) (hR : sb x0 1 0 = R) (hb : bw x0 1 0 = 0) (hnz : (x2 == 0) = false) (w : World)
    (hA : w.heap[a]? = some (.cells #[.int .u64 x0, .int .u64 x1, .int .u64 x2, .int .u64 y3, .int .u64 y4, .int .u64 y5, .int .u64 y6, .int .u64 y7] 89 (0, 0))) (cy : w.cell? ⟨yb, 0, none⟩ = some (.int .u64 1)) (hne : a ≠ yb) (hyc : 1 ≤ yc) :
    Calls Tryz.prog 64 #[.slice (some ⟨a, 0, none⟩) 3 8, .slice (some ⟨a, 0, none⟩) 3 8, .slice (some ⟨yb, 0, none⟩) 1 yc] w fun e w' =>
      e = .returned (.slice (some ⟨a, 0, none⟩) 3 8) ∧ ∃ k, ((w.setCell ⟨a, 0, none⟩ (.int .u64 R)).setCell ⟨a, 1, none⟩ (.int .u64 x1)).drewN k = w' := by
  have c0 := blk_cell hA 0 rfl
  have f0 := blk_frozen hA 0
  have hA1 := blk_set hA 0 (.int .u64 R)
  have c1_1 := blk_cell hA1 1 rfl
  have f1_1 := blk_frozen hA1 1
  have hA2 := blk_set hA1 1 (.int .u64 x1)
  have HF := Lib.hid hA2
  clear hA1 hA2
  have HN := Lib.hid hnz
  clear hA hnz
  go_enter Tryz.func64, Tryz.ntmps64
  go_wp2_with (first | (go_at_call 72; refine (make_reuse _ 3 8 3 (by omega) _).mono ?_; rintro e w' ⟨rfl, rfl⟩))
  go_region_with (first | (go_at_call 81; refine (subVV_one a a yb _ _ _ x0 1 x00 x01 (by omega) (by omega) _ ?_ ?_ ?_ (.int .u64 x0) ?_).mono ?_; (exact c0); (exact cy); (exact f0); (exact c0); rintro e w' ⟨rfl, k, rfl⟩))
  go_wp2_with fail
  go_region_with (first | (go_at_call 82; refine (subVW_zero a 1 2 _ (by omega) x1 x10 x11 _ ?_ ?_).mono ?_; (exact c1_1); (exact f1_1); rintro e w' ⟨rfl, k2, rfl⟩))
  go_wp2_with fail
  refine (norm_any a 8 3 3 (fun j => if j = 0 then R else if j = 1 then x1 else if j = 2 then x2 else 0) _ ?hc (by omega) (by omega) (by omega) ?hz ?hn).mono ?_
  case hc =>
    intro j hj
    have hj2 : j = 0 ∨ j = 1 ∨ j = 2 := by omega
    rcases hj2 with rfl | rfl | rfl <;> exact blk_cell (blk_drewN HF.out _) _ rfl
  case hz =>
    intro j h1 h2
    omega
  case hn => intro _; exact HN.out
  rintro e w' ⟨rfl, rfl⟩
  go_wp2
  go_ret
  exact ⟨rfl, _, rfl⟩

set_option maxHeartbeats 1000000 in
theorem cmp_one (a yb ac yc : Nat) (x0 : Int) (h : 1 < x0) (w : World) (cx : w.cell? ⟨a, 0, none⟩ = some (.int .u64 x0)) (cy : w.cell? ⟨yb, 0, none⟩ = some (.int .u64 1)) :
    Calls Tryz.prog 63 #[.slice (some ⟨a, 0, none⟩) 1 ac, .slice (some ⟨yb, 0, none⟩) 1 yc] w fun e w' => e = .returned (.int .i64 1) ∧ ∃ k, w.drewN k = w' := by
  go_enter Tryz.func63, Tryz.ntmps63
  go_wp2_with fail
  refine wp_loop_rounds 1 ?_
  rw [rounds_succ]
  go_wp2_with fail
  go_quiet (fail)
  go_wp2
  go_quiet (fail)
  go_wp2
  go_quiet (fail)
  go_wp2
  go_ret
  refine ⟨rfl, ?_⟩
  simp only [World.drewN_drewN]
  exact ⟨_, rfl⟩
theorem cmp_more (ad yd : Option Addr) (n ac yc : Nat) (h : 1 < n) (w : World) :
    Calls Tryz.prog 63 #[.slice ad n ac, .slice yd 1 yc] w fun e w' => e = .returned (.int .i64 1) ∧ w = w' := by
  go_enter Tryz.func63, Tryz.ntmps63
  go_wp2
  go_ret
  exact ⟨rfl, rfl⟩
end Go.Proofs.YtjejffijhlppmaaGreatDoor
