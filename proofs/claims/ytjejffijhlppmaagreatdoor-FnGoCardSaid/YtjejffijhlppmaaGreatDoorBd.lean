/-
  The contracts of nat.add and nat.sub at one, two and three words and one word, in place.
-/
import Derived.Test.YtjejffijhlppmaaGreatDoorBc
namespace Go.Dv
open Go.RowKit
set_option linter.unusedVariables false
theorem blk_set {w : World} {b : Nat} {cs : Array Value} {t : TypeId} (h : w.heap[b]? = some (.cells cs t (0, 0))) (i : Nat) (v : Value) :
    (w.setCell ⟨b, i, none⟩ v).heap[b]? = some (.cells (cs.setIfInBounds i v) t (0, 0)) := by
  simp only [World.setCell, Array.getElem?_modify, if_pos, h, Option.map_some]
  simp
theorem blk_other {w : World} {b k : Nat} {o : Option Obj} (h : w.heap[k]? = o) (hk : k ≠ b) (i : Nat) (v : Value) : (w.setCell ⟨b, i, none⟩ v).heap[k]? = o := by
  rw [Below.heap_setCell _ _ _ _ hk]; exact h
theorem blk_cell {w : World} {b : Nat} {cs : Array Value} {t : TypeId} (h : w.heap[b]? = some (.cells cs t (0, 0))) (i : Nat) {v : Value} (hv : cs[i]? = some v) : w.cell? ⟨b, i, none⟩ = some v := by
  simp only [World.cell?, h]; exact hv
theorem blk_frozen {w : World} {b : Nat} {cs : Array Value} {t : TypeId} (h : w.heap[b]? = some (.cells cs t (0, 0))) (i : Nat) : w.frozen? ⟨b, i, none⟩ = false := by
  simp [World.frozen?, h]
theorem blk_drewN {w : World} {b : Nat} {o : Option Obj} (h : w.heap[b]? = o) (q : Nat) : (w.drewN q).heap[b]? = o := h
theorem blk_drew {w : World} {b : Nat} {o : Option Obj} (h : w.heap[b]? = o) : w.drew.heap[b]? = o := h
theorem blk_lt {w : World} {b : Nat} {o : Obj} (h : w.heap[b]? = some o) : b < w.heap.size := by
  by_cases hb : b < w.heap.size
  · exact hb
  · rw [Array.getElem?_eq_none (by omega)] at h; exact absurd h (by simp)
end Go.Dv
namespace Go.Proofs.YtjejffijhlppmaaGreatDoor
open Go.Dv Go.RowKit
set_option linter.unusedVariables false

set_option maxHeartbeats 1000000 in
theorem add_1 (a yb yc : Nat) (x0 z y2 y3 y4 y5 d : Int) (x00 : 0 ≤ x0) (x01 : x0 < 18446744073709551616) (d0 : 0 ≤ d) (d1 : d < 18446744073709551616) (hs : x0 + d < 18446744073709551616) (S : Int) (hS : x0 + d = S) (hnz : (S == 0) = false) (w : World)
    (hA : w.heap[a]? = some (.cells #[.int .u64 x0, .int .u64 z, .int .u64 y2, .int .u64 y3, .int .u64 y4, .int .u64 y5] 89 (0, 0))) (cy : w.cell? ⟨yb, 0, none⟩ = some (.int .u64 d)) (hne : a ≠ yb) (hyc : 1 ≤ yc) :
    Calls Tryz.prog 62 #[.slice (some ⟨a, 0, none⟩) 1 6, .slice (some ⟨a, 0, none⟩) 1 6, .slice (some ⟨yb, 0, none⟩) 1 yc] w fun e w' =>
      e = .returned (.slice (some ⟨a, 0, none⟩) 1 6) ∧ ∃ k, ((w.setCell ⟨a, 0, none⟩ (.int .u64 S)).setCell ⟨a, 1, none⟩ (.int .u64 0)).drewN k = w' := by
  have c0 := blk_cell hA 0 rfl
  have f0 := blk_frozen hA 0
  have hA1 := blk_set hA 0 (.int .u64 S)
  have c1_1 := blk_cell hA1 1 rfl
  have f1_1 := blk_frozen hA1 1
  have HF := Lib.hid (blk_set hA1 1 (.int .u64 0))
  clear hA1
  have HN := Lib.hid hnz
  obtain ⟨l1, l2, -, -⟩ := lo_id S (by omega) (by omega)
  clear hA hnz
  go_enter Tryz.func62, Tryz.ntmps62
  go_wp2_with (first | (go_at_call 72; refine (make_reuse _ 1 6 2 (by omega) _).mono ?_; rintro e w' ⟨rfl, rfl⟩))
  go_region_with (first | (go_at_call 79; refine (addVV_one a a yb _ _ _ x0 d x00 x01 d0 d1 _ ?_ ?_ ?_ (.int .u64 x0) ?_).mono ?_; (exact c0); (exact cy); (exact f0); (exact c0); rintro e w' ⟨rfl, k, rfl⟩))
  go_wp2_with fail
  refine (norm_any a 6 2 1 (fun j => if j = 0 then S else 0) _ ?hc (by omega) (by omega) (by omega) ?hz ?hn).mono ?_
  case hc =>
    intro j hj
    have hj2 : j = 0 ∨ j = 1 := by omega
    rcases hj2 with rfl | rfl <;> exact blk_cell (blk_drewN HF.out _) _ rfl
  case hz =>
    intro j h1 h2
    obtain rfl : j = 1 := by omega
    rfl
  case hn => intro _; exact HN.out
  rintro e w' ⟨rfl, rfl⟩
  go_wp2
  go_ret
  exact ⟨rfl, _, rfl⟩

set_option maxHeartbeats 1000000 in
theorem add_2 (a yb yc : Nat) (x0 x1 z y3 y4 y5 y6 d : Int) (x00 : 0 ≤ x0) (x01 : x0 < 18446744073709551616) (x10 : 0 ≤ x1) (x11 : x1 < 18446744073709551616) (d0 : 0 ≤ d) (d1 : d < 18446744073709551616) (hs : x0 + d < 18446744073709551616) (S : Int) (hS : x0 + d = S) (hnz : (x1 == 0) = false) (w : World)
    (hA : w.heap[a]? = some (.cells #[.int .u64 x0, .int .u64 x1, .int .u64 z, .int .u64 y3, .int .u64 y4, .int .u64 y5, .int .u64 y6] 89 (0, 0))) (cy : w.cell? ⟨yb, 0, none⟩ = some (.int .u64 d)) (hne : a ≠ yb) (hyc : 1 ≤ yc) :
    Calls Tryz.prog 62 #[.slice (some ⟨a, 0, none⟩) 2 7, .slice (some ⟨a, 0, none⟩) 2 7, .slice (some ⟨yb, 0, none⟩) 1 yc] w fun e w' =>
      e = .returned (.slice (some ⟨a, 0, none⟩) 2 7) ∧ ∃ k, (((w.setCell ⟨a, 0, none⟩ (.int .u64 S)).setCell ⟨a, 1, none⟩ (.int .u64 x1)).setCell ⟨a, 2, none⟩ (.int .u64 0)).drewN k = w' := by
  have c0 := blk_cell hA 0 rfl
  have f0 := blk_frozen hA 0
  have hA1 := blk_set hA 0 (.int .u64 S)
  have c1_1 := blk_cell hA1 1 rfl
  have f1_1 := blk_frozen hA1 1
  have c1_2 := blk_cell hA1 2 rfl
  have f1_2 := blk_frozen hA1 2
  have hA2 := blk_set hA1 1 (.int .u64 x1)
  have c2_2 := blk_cell hA2 2 rfl
  have f2_2 := blk_frozen hA2 2
  have HF := Lib.hid (blk_set hA2 2 (.int .u64 0))
  clear hA1 hA2
  have HN := Lib.hid hnz
  obtain ⟨l1, l2, -, -⟩ := lo_id S (by omega) (by omega)
  clear hA hnz
  go_enter Tryz.func62, Tryz.ntmps62
  go_wp2_with (first | (go_at_call 72; refine (make_reuse _ 2 7 3 (by omega) _).mono ?_; rintro e w' ⟨rfl, rfl⟩))
  go_region_with (first | (go_at_call 79; refine (addVV_one a a yb _ _ _ x0 d x00 x01 d0 d1 _ ?_ ?_ ?_ (.int .u64 x0) ?_).mono ?_; (exact c0); (exact cy); (exact f0); (exact c0); rintro e w' ⟨rfl, k, rfl⟩))
  go_wp2_with fail
  go_region_with (first | (go_at_call 80; refine (addVW_zero a 1 1 _ (by omega) x1 x10 x11 _ ?_ ?_).mono ?_; (exact c1_1); (exact f1_1); rintro e w' ⟨rfl, k2, rfl⟩))
  go_wp2_with fail
  refine (norm_any a 7 3 2 (fun j => if j = 0 then S else if j = 1 then x1 else 0) _ ?hc (by omega) (by omega) (by omega) ?hz ?hn).mono ?_
  case hc =>
    intro j hj
    have hj2 : j = 0 ∨ j = 1 ∨ j = 2 := by omega
    rcases hj2 with rfl | rfl | rfl <;> exact blk_cell (blk_drewN HF.out _) _ rfl
  case hz =>
    intro j h1 h2
    obtain rfl : j = 2 := by omega
    rfl
  case hn => intro _; exact HN.out
  rintro e w' ⟨rfl, rfl⟩
  go_wp2
  go_ret
  exact ⟨rfl, _, rfl⟩

set_option maxHeartbeats 1000000 in
theorem add_3 (a yb yc : Nat) (x0 x1 x2 z y4 y5 y6 y7 d : Int) (x00 : 0 ≤ x0) (x01 : x0 < 18446744073709551616) (x10 : 0 ≤ x1) (x11 : x1 < 18446744073709551616) (x20 : 0 ≤ x2) (x21 : x2 < 18446744073709551616) (d0 : 0 ≤ d) (d1 : d < 18446744073709551616) (hs : x0 + d < 18446744073709551616) (S : Int) (hS : x0 + d = S) (hnz : (x2 == 0) = false) (w : World)
    (hA : w.heap[a]? = some (.cells #[.int .u64 x0, .int .u64 x1, .int .u64 x2, .int .u64 z, .int .u64 y4, .int .u64 y5, .int .u64 y6, .int .u64 y7] 89 (0, 0))) (cy : w.cell? ⟨yb, 0, none⟩ = some (.int .u64 d)) (hne : a ≠ yb) (hyc : 1 ≤ yc) :
    Calls Tryz.prog 62 #[.slice (some ⟨a, 0, none⟩) 3 8, .slice (some ⟨a, 0, none⟩) 3 8, .slice (some ⟨yb, 0, none⟩) 1 yc] w fun e w' =>
      e = .returned (.slice (some ⟨a, 0, none⟩) 3 8) ∧ ∃ k, (((w.setCell ⟨a, 0, none⟩ (.int .u64 S)).setCell ⟨a, 1, none⟩ (.int .u64 x1)).setCell ⟨a, 3, none⟩ (.int .u64 0)).drewN k = w' := by
  have c0 := blk_cell hA 0 rfl
  have f0 := blk_frozen hA 0
  have hA1 := blk_set hA 0 (.int .u64 S)
  have c1_1 := blk_cell hA1 1 rfl
  have f1_1 := blk_frozen hA1 1
  have c1_2 := blk_cell hA1 2 rfl
  have f1_2 := blk_frozen hA1 2
  have c1_3 := blk_cell hA1 3 rfl
  have f1_3 := blk_frozen hA1 3
  have hA2 := blk_set hA1 1 (.int .u64 x1)
  have c2_2 := blk_cell hA2 2 rfl
  have f2_2 := blk_frozen hA2 2
  have c2_3 := blk_cell hA2 3 rfl
  have f2_3 := blk_frozen hA2 3
  have HF := Lib.hid (blk_set hA2 3 (.int .u64 0))
  clear hA1 hA2
  have HN := Lib.hid hnz
  obtain ⟨l1, l2, -, -⟩ := lo_id S (by omega) (by omega)
  clear hA hnz
  go_enter Tryz.func62, Tryz.ntmps62
  go_wp2_with (first | (go_at_call 72; refine (make_reuse _ 3 8 4 (by omega) _).mono ?_; rintro e w' ⟨rfl, rfl⟩))
  go_region_with (first | (go_at_call 79; refine (addVV_one a a yb _ _ _ x0 d x00 x01 d0 d1 _ ?_ ?_ ?_ (.int .u64 x0) ?_).mono ?_; (exact c0); (exact cy); (exact f0); (exact c0); rintro e w' ⟨rfl, k, rfl⟩))
  go_wp2_with fail
  go_region_with (first | (go_at_call 80; refine (addVW_zero a 1 2 _ (by omega) x1 x10 x11 _ ?_ ?_).mono ?_; (exact c1_1); (exact f1_1); rintro e w' ⟨rfl, k2, rfl⟩))
  go_wp2_with fail
  refine (norm_any a 8 4 3 (fun j => if j = 0 then S else if j = 1 then x1 else if j = 2 then x2 else 0) _ ?hc (by omega) (by omega) (by omega) ?hz ?hn).mono ?_
  case hc =>
    intro j hj
    have hj2 : j = 0 ∨ j = 1 ∨ j = 2 ∨ j = 3 := by omega
    rcases hj2 with rfl | rfl | rfl | rfl <;> exact blk_cell (blk_drewN HF.out _) _ rfl
  case hz =>
    intro j h1 h2
    obtain rfl : j = 3 := by omega
    rfl
  case hn => intro _; exact HN.out
  rintro e w' ⟨rfl, rfl⟩
  go_wp2
  go_ret
  exact ⟨rfl, _, rfl⟩
end Go.Proofs.YtjejffijhlppmaaGreatDoor
