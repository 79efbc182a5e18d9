/-
  The contracts of nat.divW, nat.setWord and nat.div by one word, in place.
-/
import Derived.Test.YtjejffijhlppmaaGreatDoorBl
namespace Go.Dv
set_option linter.unusedVariables false
/-- three words as a function -/
def dg (q0 q1 q2 : Int) (j : Nat) : Int := if j = 0 then q0 else if j = 1 then q1 else q2
end Go.Dv
namespace Go.Proofs.YtjejffijhlppmaaGreatDoor
open Go.Dv Go.RowKit
set_option linter.unusedVariables false

theorem setWord_0 (w : World) :
    Calls Tryz.prog 71 #[.slice none 0 0, .int .u64 0] w fun e w' => e = .returned (.slice none 0 0) ∧ w = w' := by
  go_enter Tryz.func71, Tryz.ntmps71
  go_wp2
  go_ret
  exact ⟨rfl, rfl⟩
theorem setWord_1 (x : Int) (hx : (x == 0) = false) (w : World) :
    Calls Tryz.prog 71 #[.slice none 0 0, .int .u64 x] w fun e w' => e = .returned (.slice (some ⟨w.heap.size, 0, none⟩) 1 1) ∧ w.alloc (.cells #[.int .u64 x] 89) = w' := by
  go_enter Tryz.func71, Tryz.ntmps71
  go_wp2_with (go_at_call 72; refine (make_one _).mono ?_; rintro e w' ⟨rfl, rfl⟩)
  go_ret
  exact ⟨rfl, rfl⟩

set_option maxHeartbeats 1000000 in
theorem divW_1 (a i : Nat) (x0 y1 y2 y3 y4 y5 y q0 r0 : Int) (x00 : 0 ≤ x0) (x01 : x0 < 18446744073709551616) (hy0 : 1 < y) (hy : y < 18446744073709551616) (hq0 : x0 / y = q0) (hr0 : x0 % y = r0) (hi : i ≤ 1) (hz : ∀ j, i ≤ j → j < 1 → (dg q0 0 0) j = 0) (hnz : 0 < i → ((dg q0 0 0) (i - 1) == 0) = false) (w : World)
    (hA : w.heap[a]? = some (.cells #[.int .u64 x0, .int .u64 y1, .int .u64 y2, .int .u64 y3, .int .u64 y4, .int .u64 y5] 89 (0, 0))) :
    Calls Tryz.prog 91 #[.slice (some ⟨a, 0, none⟩) 1 6, .slice (some ⟨a, 0, none⟩) 1 6, .int .u64 y] w fun e w' =>
      e = .returned (.tuple #[.slice (some ⟨a, 0, none⟩) i 6, .int .u64 r0]) ∧ ∃ k, (w.setCell ⟨a, 0, none⟩ (.int .u64 q0)).drewN k = w' := by
  have c0 := blk_cell hA 0 rfl
  have f0 := blk_frozen hA 0
  have hS0 := blk_set hA 0 (.int .u64 q0)
  have HF := Lib.hid hS0
  have HQ := Lib.hid (And.intro hq0 hr0)
  have HZ := Lib.hid hz
  have HN := Lib.hid hnz
  clear hA hS0 hz hnz hq0 hr0
  have e0 : (y == 0) = false := by simp; omega
  have e1 : (y == 1) = false := by simp; omega
  go_enter Tryz.func91, Tryz.ntmps91
  go_wp2_with (first | (go_at_call 72; refine (make_reuse _ 1 6 1 (by omega) _).mono ?_; rintro e w' ⟨rfl, rfl⟩) | (go_at_call 99; refine (divWVW_1 a 6 x0 y x00 x01 (by omega) hy _ c0 f0).mono ?_; rintro e w' ⟨rfl, k, rfl⟩; rw [HQ.out.1, HQ.out.2]))
  refine (norm_any a 6 1 i (dg q0 0 0) _ ?hc hi (by omega) (by omega) HZ.out HN.out).mono ?_
  case hc =>
    intro j hj
    have hj2 : j = 0 := by omega
    rcases hj2 with rfl <;> exact blk_cell (blk_drewN HF.out _) _ rfl
  rintro e w' ⟨rfl, rfl⟩
  go_wp2
  go_ret2
  exact ⟨rfl, _, rfl⟩

set_option maxHeartbeats 1000000 in
theorem natDiv_10 (yb yc : Nat) (a i : Nat) (x0 y1 y2 y3 y4 y5 y q0 r0 : Int) (x00 : 0 ≤ x0) (x01 : x0 < 18446744073709551616) (hy0 : 1 < y) (hy : y < 18446744073709551616) (hq0 : x0 / y = q0) (hr0 : x0 % y = r0) (hi : i ≤ 1) (hz : ∀ j, i ≤ j → j < 1 → (dg q0 0 0) j = 0) (hnz : 0 < i → ((dg q0 0 0) (i - 1) == 0) = false) (w : World)
    (hA : w.heap[a]? = some (.cells #[.int .u64 x0, .int .u64 y1, .int .u64 y2, .int .u64 y3, .int .u64 y4, .int .u64 y5] 89 (0, 0))) (cy : w.cell? ⟨yb, 0, none⟩ = some (.int .u64 y)) (hyc : 1 ≤ yc) (h0 : r0 = 0) :
    Calls Tryz.prog 83 #[.slice (some ⟨a, 0, none⟩) 1 6, .pointer none, .slice none 0 0, .slice (some ⟨a, 0, none⟩) 1 6, .slice (some ⟨yb, 0, none⟩) 1 yc] w fun e w' =>
      e = .returned (.tuple #[.slice (some ⟨a, 0, none⟩) i 6, (.slice none 0 0)]) ∧ ∃ k, (w.setCell ⟨a, 0, none⟩ (.int .u64 q0)).drewN k = w' := by
  subst h0
  have HD := Lib.hid (divW_1 a i x0 y1 y2 y3 y4 y5 y q0 0 x00 x01 hy0 hy hq0 hr0 hi hz hnz w hA)
  clear hq0 hr0 hz hnz hA
  go_enter Tryz.func83, Tryz.ntmps83
  go_wp2_with (first | (go_at_call 91; refine HD.out.mono ?_; rintro e w' ⟨rfl, k, rfl⟩) | (go_at_call 71; refine (setWord_0 _).mono ?_; rintro e w' ⟨rfl, rfl⟩))
  go_ret2
  exact ⟨rfl, _, rfl⟩

set_option maxHeartbeats 1000000 in
theorem natDiv_11 (yb yc : Nat) (a i : Nat) (x0 y1 y2 y3 y4 y5 y q0 r0 : Int) (x00 : 0 ≤ x0) (x01 : x0 < 18446744073709551616) (hy0 : 1 < y) (hy : y < 18446744073709551616) (hq0 : x0 / y = q0) (hr0 : x0 % y = r0) (hi : i ≤ 1) (hz : ∀ j, i ≤ j → j < 1 → (dg q0 0 0) j = 0) (hnz : 0 < i → ((dg q0 0 0) (i - 1) == 0) = false) (w : World)
    (hA : w.heap[a]? = some (.cells #[.int .u64 x0, .int .u64 y1, .int .u64 y2, .int .u64 y3, .int .u64 y4, .int .u64 y5] 89 (0, 0))) (cy : w.cell? ⟨yb, 0, none⟩ = some (.int .u64 y)) (hyc : 1 ≤ yc) (h0 : (r0 == 0) = false) :
    Calls Tryz.prog 83 #[.slice (some ⟨a, 0, none⟩) 1 6, .pointer none, .slice none 0 0, .slice (some ⟨a, 0, none⟩) 1 6, .slice (some ⟨yb, 0, none⟩) 1 yc] w fun e w' =>
      e = .returned (.tuple #[.slice (some ⟨a, 0, none⟩) i 6, (.slice (some ⟨w.heap.size, 0, none⟩) 1 1)]) ∧ ∃ k, ((w.setCell ⟨a, 0, none⟩ (.int .u64 q0)).alloc (.cells #[.int .u64 r0] 89)).drewN k = w' := by
  have HD := Lib.hid (divW_1 a i x0 y1 y2 y3 y4 y5 y q0 r0 x00 x01 hy0 hy hq0 hr0 hi hz hnz w hA)
  clear hq0 hr0 hz hnz hA
  go_enter Tryz.func83, Tryz.ntmps83
  go_wp2_with (first | (go_at_call 91; refine HD.out.mono ?_; rintro e w' ⟨rfl, k, rfl⟩) | (go_at_call 71; refine (setWord_1 r0 h0 _).mono ?_; rintro e w' ⟨rfl, rfl⟩))
  go_ret2
  exact ⟨rfl, _, rfl⟩

set_option maxHeartbeats 1000000 in
theorem divW_2 (a i : Nat) (x0 x1 y2 y3 y4 y5 y6 y q1 r1 q0 r0 : Int) (x00 : 0 ≤ x0) (x01 : x0 < 18446744073709551616) (x10 : 0 ≤ x1) (x11 : x1 < 18446744073709551616) (hy0 : 1 < y) (hy : y < 18446744073709551616) (hq1 : x1 / y = q1) (hr1 : x1 % y = r1) (hq0 : (r1 * 18446744073709551616 + x0) / y = q0) (hr0 : (r1 * 18446744073709551616 + x0) % y = r0) (hi : i ≤ 2) (hz : ∀ j, i ≤ j → j < 2 → (dg q0 q1 0) j = 0) (hnz : 0 < i → ((dg q0 q1 0) (i - 1) == 0) = false) (w : World)
    (hA : w.heap[a]? = some (.cells #[.int .u64 x0, .int .u64 x1, .int .u64 y2, .int .u64 y3, .int .u64 y4, .int .u64 y5, .int .u64 y6] 89 (0, 0))) :
    Calls Tryz.prog 91 #[.slice (some ⟨a, 0, none⟩) 2 7, .slice (some ⟨a, 0, none⟩) 2 7, .int .u64 y] w fun e w' =>
      e = .returned (.tuple #[.slice (some ⟨a, 0, none⟩) i 7, .int .u64 r0]) ∧ ∃ k, ((w.setCell ⟨a, 1, none⟩ (.int .u64 q1)).setCell ⟨a, 0, none⟩ (.int .u64 q0)).drewN k = w' := by
  have c0 := blk_cell hA 0 rfl
  have f0 := blk_frozen hA 0
  have c1 := blk_cell hA 1 rfl
  have f1 := blk_frozen hA 1
  have hS1 := blk_set hA 1 (.int .u64 q1)
  have hS0 := blk_set hS1 0 (.int .u64 q0)
  have HF := Lib.hid hS0
  have HQ := Lib.hid (And.intro hq1 (And.intro hr1 (And.intro hq0 hr0)))
  have HZ := Lib.hid hz
  have HN := Lib.hid hnz
  clear hA hS0 hS1 hz hnz hq1 hr1 hq0 hr0
  have e0 : (y == 0) = false := by simp; omega
  have e1 : (y == 1) = false := by simp; omega
  go_enter Tryz.func91, Tryz.ntmps91
  go_wp2_with (first | (go_at_call 72; refine (make_reuse _ 2 7 2 (by omega) _).mono ?_; rintro e w' ⟨rfl, rfl⟩) | (go_at_call 99; refine (divWVW_2 a 7 x0 x1 y q1 r1 q0 r0 x00 x01 x10 x11 (by omega) hy HQ.out.1 HQ.out.2.1 HQ.out.2.2.1 HQ.out.2.2.2 _ c0 f0 c1 f1).mono ?_; rintro e w' ⟨rfl, k, rfl⟩))
  refine (norm_any a 7 2 i (dg q0 q1 0) _ ?hc hi (by omega) (by omega) HZ.out HN.out).mono ?_
  case hc =>
    intro j hj
    have hj2 : j = 0 ∨ j = 1 := by omega
    rcases hj2 with rfl | rfl <;> exact blk_cell (blk_drewN HF.out _) _ rfl
  rintro e w' ⟨rfl, rfl⟩
  go_wp2
  go_ret2
  exact ⟨rfl, _, rfl⟩

set_option maxHeartbeats 1000000 in
theorem natDiv_20 (yb yc : Nat) (a i : Nat) (x0 x1 y2 y3 y4 y5 y6 y q1 r1 q0 r0 : Int) (x00 : 0 ≤ x0) (x01 : x0 < 18446744073709551616) (x10 : 0 ≤ x1) (x11 : x1 < 18446744073709551616) (hy0 : 1 < y) (hy : y < 18446744073709551616) (hq1 : x1 / y = q1) (hr1 : x1 % y = r1) (hq0 : (r1 * 18446744073709551616 + x0) / y = q0) (hr0 : (r1 * 18446744073709551616 + x0) % y = r0) (hi : i ≤ 2) (hz : ∀ j, i ≤ j → j < 2 → (dg q0 q1 0) j = 0) (hnz : 0 < i → ((dg q0 q1 0) (i - 1) == 0) = false) (w : World)
    (hA : w.heap[a]? = some (.cells #[.int .u64 x0, .int .u64 x1, .int .u64 y2, .int .u64 y3, .int .u64 y4, .int .u64 y5, .int .u64 y6] 89 (0, 0))) (cy : w.cell? ⟨yb, 0, none⟩ = some (.int .u64 y)) (hyc : 1 ≤ yc) (h0 : r0 = 0) :
    Calls Tryz.prog 83 #[.slice (some ⟨a, 0, none⟩) 2 7, .pointer none, .slice none 0 0, .slice (some ⟨a, 0, none⟩) 2 7, .slice (some ⟨yb, 0, none⟩) 1 yc] w fun e w' =>
      e = .returned (.tuple #[.slice (some ⟨a, 0, none⟩) i 7, (.slice none 0 0)]) ∧ ∃ k, ((w.setCell ⟨a, 1, none⟩ (.int .u64 q1)).setCell ⟨a, 0, none⟩ (.int .u64 q0)).drewN k = w' := by
  subst h0
  have HD := Lib.hid (divW_2 a i x0 x1 y2 y3 y4 y5 y6 y q1 r1 q0 0 x00 x01 x10 x11 hy0 hy hq1 hr1 hq0 hr0 hi hz hnz w hA)
  clear hq1 hr1 hq0 hr0 hz hnz hA
  go_enter Tryz.func83, Tryz.ntmps83
  go_wp2_with (first | (go_at_call 91; refine HD.out.mono ?_; rintro e w' ⟨rfl, k, rfl⟩) | (go_at_call 71; refine (setWord_0 _).mono ?_; rintro e w' ⟨rfl, rfl⟩))
  go_ret2
  exact ⟨rfl, _, rfl⟩

set_option maxHeartbeats 1000000 in
theorem natDiv_21 (yb yc : Nat) (a i : Nat) (x0 x1 y2 y3 y4 y5 y6 y q1 r1 q0 r0 : Int) (x00 : 0 ≤ x0) (x01 : x0 < 18446744073709551616) (x10 : 0 ≤ x1) (x11 : x1 < 18446744073709551616) (hy0 : 1 < y) (hy : y < 18446744073709551616) (hq1 : x1 / y = q1) (hr1 : x1 % y = r1) (hq0 : (r1 * 18446744073709551616 + x0) / y = q0) (hr0 : (r1 * 18446744073709551616 + x0) % y = r0) (hi : i ≤ 2) (hz : ∀ j, i ≤ j → j < 2 → (dg q0 q1 0) j = 0) (hnz : 0 < i → ((dg q0 q1 0) (i - 1) == 0) = false) (w : World)
    (hA : w.heap[a]? = some (.cells #[.int .u64 x0, .int .u64 x1, .int .u64 y2, .int .u64 y3, .int .u64 y4, .int .u64 y5, .int .u64 y6] 89 (0, 0))) (cy : w.cell? ⟨yb, 0, none⟩ = some (.int .u64 y)) (hyc : 1 ≤ yc) (h0 : (r0 == 0) = false) :
    Calls Tryz.prog 83 #[.slice (some ⟨a, 0, none⟩) 2 7, .pointer none, .slice none 0 0, .slice (some ⟨a, 0, none⟩) 2 7, .slice (some ⟨yb, 0, none⟩) 1 yc] w fun e w' =>
      e = .returned (.tuple #[.slice (some ⟨a, 0, none⟩) i 7, (.slice (some ⟨w.heap.size, 0, none⟩) 1 1)]) ∧ ∃ k, (((w.setCell ⟨a, 1, none⟩ (.int .u64 q1)).setCell ⟨a, 0, none⟩ (.int .u64 q0)).alloc (.cells #[.int .u64 r0] 89)).drewN k = w' := by
  have HD := Lib.hid (divW_2 a i x0 x1 y2 y3 y4 y5 y6 y q1 r1 q0 r0 x00 x01 x10 x11 hy0 hy hq1 hr1 hq0 hr0 hi hz hnz w hA)
  clear hq1 hr1 hq0 hr0 hz hnz hA
  go_enter Tryz.func83, Tryz.ntmps83
  go_wp2_with (first | (go_at_call 91; refine HD.out.mono ?_; rintro e w' ⟨rfl, k, rfl⟩) | (go_at_call 71; refine (setWord_1 r0 h0 _).mono ?_; rintro e w' ⟨rfl, rfl⟩))
  go_ret2
  exact ⟨rfl, _, rfl⟩

set_option maxHeartbeats 1000000 in
theorem divW_3 (a i : Nat) (x0 x1 x2 y3 y4 y5 y6 y7 y q2 r2 q1 r1 q0 r0 : Int) (x00 : 0 ≤ x0) (x01 : x0 < 18446744073709551616) (x10 : 0 ≤ x1) (x11 : x1 < 18446744073709551616) (x20 : 0 ≤ x2) (x21 : x2 < 18446744073709551616) (hy0 : 1 < y) (hy : y < 18446744073709551616) (hq2 : x2 / y = q2) (hr2 : x2 % y = r2) (hq1 : (r2 * 18446744073709551616 + x1) / y = q1) (hr1 : (r2 * 18446744073709551616 + x1) % y = r1) (hq0 : (r1 * 18446744073709551616 + x0) / y = q0) (hr0 : (r1 * 18446744073709551616 + x0) % y = r0) (hi : i ≤ 3) (hz : ∀ j, i ≤ j → j < 3 → (dg q0 q1 q2) j = 0) (hnz : 0 < i → ((dg q0 q1 q2) (i - 1) == 0) = false) (w : World)
    (hA : w.heap[a]? = some (.cells #[.int .u64 x0, .int .u64 x1, .int .u64 x2, .int .u64 y3, .int .u64 y4, .int .u64 y5, .int .u64 y6, .int .u64 y7] 89 (0, 0))) :
    Calls Tryz.prog 91 #[.slice (some ⟨a, 0, none⟩) 3 8, .slice (some ⟨a, 0, none⟩) 3 8, .int .u64 y] w fun e w' =>
      e = .returned (.tuple #[.slice (some ⟨a, 0, none⟩) i 8, .int .u64 r0]) ∧ ∃ k, (((w.setCell ⟨a, 2, none⟩ (.int .u64 q2)).setCell ⟨a, 1, none⟩ (.int .u64 q1)).setCell ⟨a, 0, none⟩ (.int .u64 q0)).drewN k = w' := by
  have c0 := blk_cell hA 0 rfl
  have f0 := blk_frozen hA 0
  have c1 := blk_cell hA 1 rfl
  have f1 := blk_frozen hA 1
  have c2 := blk_cell hA 2 rfl
  have f2 := blk_frozen hA 2
  have hS2 := blk_set hA 2 (.int .u64 q2)
  have hS1 := blk_set hS2 1 (.int .u64 q1)
  have hS0 := blk_set hS1 0 (.int .u64 q0)
  have HF := Lib.hid hS0
  have HQ := Lib.hid (And.intro hq2 (And.intro hr2 (And.intro hq1 (And.intro hr1 (And.intro hq0 hr0)))))
  have HZ := Lib.hid hz
  have HN := Lib.hid hnz
  clear hA hS0 hS1 hS2 hz hnz hq2 hr2 hq1 hr1 hq0 hr0
  have e0 : (y == 0) = false := by simp; omega
  have e1 : (y == 1) = false := by simp; omega
  go_enter Tryz.func91, Tryz.ntmps91
  go_wp2_with (first | (go_at_call 72; refine (make_reuse _ 3 8 3 (by omega) _).mono ?_; rintro e w' ⟨rfl, rfl⟩) | (go_at_call 99; refine (divWVW_3 a 8 x0 x1 x2 y q2 r2 q1 r1 q0 r0 x00 x01 x10 x11 x20 x21 (by omega) hy HQ.out.1 HQ.out.2.1 HQ.out.2.2.1 HQ.out.2.2.2.1 HQ.out.2.2.2.2.1 HQ.out.2.2.2.2.2 _ c0 f0 c1 f1 c2 f2).mono ?_; rintro e w' ⟨rfl, k, rfl⟩))
  refine (norm_any a 8 3 i (dg q0 q1 q2) _ ?hc hi (by omega) (by omega) HZ.out HN.out).mono ?_
  case hc =>
    intro j hj
    have hj2 : j = 0 ∨ j = 1 ∨ j = 2 := by omega
    rcases hj2 with rfl | rfl | rfl <;> exact blk_cell (blk_drewN HF.out _) _ rfl
  rintro e w' ⟨rfl, rfl⟩
  go_wp2
  go_ret2
  exact ⟨rfl, _, rfl⟩

set_option maxHeartbeats 1000000 in
theorem natDiv_30 (yb yc : Nat) (a i : Nat) (x0 x1 x2 y3 y4 y5 y6 y7 y q2 r2 q1 r1 q0 r0 : Int) (x00 : 0 ≤ x0) (x01 : x0 < 18446744073709551616) (x10 : 0 ≤ x1) (x11 : x1 < 18446744073709551616) (x20 : 0 ≤ x2) (x21 : x2 < 18446744073709551616) (hy0 : 1 < y) (hy : y < 18446744073709551616) (hq2 : x2 / y = q2) (hr2 : x2 % y = r2) (hq1 : (r2 * 18446744073709551616 + x1) / y = q1) (hr1 : (r2 * 18446744073709551616 + x1) % y = r1) (hq0 : (r1 * 18446744073709551616 + x0) / y = q0) (hr0 : (r1 * 18446744073709551616 + x0) % y = r0) (hi : i ≤ 3) (hz : ∀ j, i ≤ j → j < 3 → (dg q0 q1 q2) j = 0) (hnz : 0 < i → ((dg q0 q1 q2) (i - 1) == 0) = false) (w : World)
    (hA : w.heap[a]? = some (.cells #[.int .u64 x0, .int .u64 x1, .int .u64 x2, .int .u64 y3, .int .u64 y4, .int .u64 y5, .int .u64 y6, .int .u64 y7] 89 (0, 0))) (cy : w.cell? ⟨yb, 0, none⟩ = some (.int .u64 y)) (hyc : 1 ≤ yc) (h0 : r0 = 0) :
    Calls Tryz.prog 83 #[.slice (some ⟨a, 0, none⟩) 3 8, .pointer none, .slice none 0 0, .slice (some ⟨a, 0, none⟩) 3 8, .slice (some ⟨yb, 0, none⟩) 1 yc] w fun e w' =>
      e = .returned (.tuple #[.slice (some ⟨a, 0, none⟩) i 8, (.slice none 0 0)]) ∧ ∃ k, (((w.setCell ⟨a, 2, none⟩ (.int .u64 q2)).setCell ⟨a, 1, none⟩ (.int .u64 q1)).setCell ⟨a, 0, none⟩ (.int .u64 q0)).drewN k = w' := by
  subst h0
  have HD := Lib.hid (divW_3 a i x0 x1 x2 y3 y4 y5 y6 y7 y q2 r2 q1 r1 q0 0 x00 x01 x10 x11 x20 x21 hy0 hy hq2 hr2 hq1 hr1 hq0 hr0 hi hz hnz w hA)
  clear hq2 hr2 hq1 hr1 hq0 hr0 hz hnz hA
  go_enter Tryz.func83, Tryz.ntmps83
  go_wp2_with (first | (go_at_call 91; refine HD.out.mono ?_; rintro e w' ⟨rfl, k, rfl⟩) | (go_at_call 71; refine (setWord_0 _).mono ?_; rintro e w' ⟨rfl, rfl⟩))
  go_ret2
  exact ⟨rfl, _, rfl⟩

set_option maxHeartbeats 1000000 in
theorem natDiv_31 (yb yc : Nat) (a i : Nat) (x0 x1 x2 y3 y4 y5 y6 y7 y q2 r2 q1 r1 q0 r0 : Int) (x00 : 0 ≤ x0) (x01 : x0 < 18446744073709551616) (x10 : 0 ≤ x1) (x11 : x1 < 18446744073709551616) (x20 : 0 ≤ x2) (x21 : x2 < 18446744073709551616) (hy0 : 1 < y) (hy : y < 18446744073709551616) (hq2 : x2 / y = q2) (hr2 : x2 % y = r2) (hq1 : (r2 * 18446744073709551616 + x1) / y = q1) (hr1 : (r2 * 18446744073709551616 + x1) % y = r1) (hq0 : (r1 * 18446744073709551616 + x0) / y = q0) (hr0 : (r1 * 18446744073709551616 + x0) % y = r0) (hi : i ≤ 3) (hz : ∀ j, i ≤ j → j < 3 → (dg q0 q1 q2) j = 0) (hnz : 0 < i → ((dg q0 q1 q2) (i - 1) == 0) = false) (w : World)
    (hA : w.heap[a]? = some (.cells #[.int .u64 x0, .int .u64 x1, .int .u64 x2, .int .u64 y3, .int .u64 y4, .int .u64 y5, .int .u64 y6, .int .u64 y7] 89 (0, 0))) (cy : w.cell? ⟨yb, 0, none⟩ = some (.int .u64 y)) (hyc : 1 ≤ yc) (h0 : (r0 == 0) = false) :
    Calls Tryz.prog 83 #[.slice (some ⟨a, 0, none⟩) 3 8, .pointer none, .slice none 0 0, .slice (some ⟨a, 0, none⟩) 3 8, .slice (some ⟨yb, 0, none⟩) 1 yc] w fun e w' =>
      e = .returned (.tuple #[.slice (some ⟨a, 0, none⟩) i 8, (.slice (some ⟨w.heap.size, 0, none⟩) 1 1)]) ∧ ∃ k, ((((w.setCell ⟨a, 2, none⟩ (.int .u64 q2)).setCell ⟨a, 1, none⟩ (.int .u64 q1)).setCell ⟨a, 0, none⟩ (.int .u64 q0)).alloc (.cells #[.int .u64 r0] 89)).drewN k = w' := by
  have HD := Lib.hid (divW_3 a i x0 x1 x2 y3 y4 y5 y6 y7 y q2 r2 q1 r1 q0 r0 x00 x01 x10 x11 x20 x21 hy0 hy hq2 hr2 hq1 hr1 hq0 hr0 hi hz hnz w hA)
  clear hq2 hr2 hq1 hr1 hq0 hr0 hz hnz hA
  go_enter Tryz.func83, Tryz.ntmps83
  go_wp2_with (first | (go_at_call 91; refine HD.out.mono ?_; rintro e w' ⟨rfl, k, rfl⟩) | (go_at_call 71; refine (setWord_1 r0 h0 _).mono ?_; rintro e w' ⟨rfl, rfl⟩))
  go_ret2
  exact ⟨rfl, _, rfl⟩
end Go.Proofs.YtjejffijhlppmaaGreatDoor
