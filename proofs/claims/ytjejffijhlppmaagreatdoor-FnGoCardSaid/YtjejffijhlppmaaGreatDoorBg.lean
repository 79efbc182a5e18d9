/-
  The contracts of Int.Lsh at the number 1.
-/
import Derived.Test.YtjejffijhlppmaaGreatDoorBf
namespace Go.Proofs.YtjejffijhlppmaaGreatDoor
open Go.Dv Go.RowKit
set_option linter.unusedVariables false

set_option maxRecDepth 100000 in
set_option maxHeartbeats 1000000 in
theorem intLsh_01 (p a : Nat) (s : Int) (hs : 1 ≤ s) (hs1 : s ≤ 128) (eq : s / 64 = 0) (r : Int) (er : s % 64 = r) (r0 : 1 ≤ r) (r1 : r ≤ 63) (e1 : bits BinOp.and IntKind.u64 r 63 = r) (e2 : bits BinOp.and IntKind.u64 (64 - r) 63 = 64 - r) (T : Int) (eT : IntKind.u64.wrap (2 ^ r.toNat) = T) (e0 : (1 : Int) / 2 ^ (64 - r).toNat = 0) (T0 : (T == 0) = false) (w : World) (hP : w.heap[p]? = some (.cells #[.bool false, .slice (some ⟨a, 0, none⟩) 1 1] 78 (0, 0)))
    (cx : w.cell? ⟨a, 0, none⟩ = some (.int .u64 1)) (ha : a < w.heap.size) :
    Calls Tryz.prog 50 #[.pointer (some ⟨p, 0, none⟩), .pointer (some ⟨p, 0, none⟩), .int .u64 s] w fun e w' =>
      e = .returned (.pointer (some ⟨p, 0, none⟩)) ∧ ∃ k, ((((w.setCell ⟨p, 1, none⟩ (.slice (some ⟨w.heap.size, 0, none⟩) 1 6)).setCell ⟨p, 0, none⟩ (.bool false)).alloc (.cells #[.int .u64 T, .int .u64 0, .int .u64 0, .int .u64 0, .int .u64 0, .int .u64 0] 89)).drewN k) = w' := by
  have hlt := blk_lt hP
  have p0 := blk_cell hP 0 rfl
  have p1 := blk_cell hP 1 rfl
  have f0 := blk_frozen hP 0
  have f1 := blk_frozen hP 1
  clear hP
  have HE := Lib.hid (And.intro eq (And.intro er (And.intro e1 (And.intro e2 (And.intro eT (And.intro e0 T0))))))
  clear eq er e1 e2 eT e0 T0
  go_enter Tryz.func50, Tryz.ntmps50
  go_wp2_with fail
  go_region_with (first | (go_at_call 61; refine (lsh_01 a s hs hs1 HE.out.1 r HE.out.2.1 r0 r1 HE.out.2.2.1 HE.out.2.2.2.1 T HE.out.2.2.2.2.1 HE.out.2.2.2.2.2.1 HE.out.2.2.2.2.2.2 _ ?_ ?_).mono ?_; (exact cx); (exact ha); rintro e w' ⟨rfl, rfl⟩))
  all_goals go_wp2
  all_goals go_ret
  all_goals exact ⟨rfl, 1, rfl⟩

set_option maxRecDepth 100000 in
set_option maxHeartbeats 1000000 in
theorem intLsh_10 (p a : Nat) (s : Int) (hs : 1 ≤ s) (hs1 : s ≤ 128) (eq : s / 64 = 1) (er : s % 64 = 0) (w : World) (hP : w.heap[p]? = some (.cells #[.bool false, .slice (some ⟨a, 0, none⟩) 1 1] 78 (0, 0)))
    (cx : w.cell? ⟨a, 0, none⟩ = some (.int .u64 1)) (ha : a < w.heap.size) :
    Calls Tryz.prog 50 #[.pointer (some ⟨p, 0, none⟩), .pointer (some ⟨p, 0, none⟩), .int .u64 s] w fun e w' =>
      e = .returned (.pointer (some ⟨p, 0, none⟩)) ∧ ∃ k, ((((w.setCell ⟨p, 1, none⟩ (.slice (some ⟨w.heap.size, 0, none⟩) 2 7)).setCell ⟨p, 0, none⟩ (.bool false)).alloc (.cells #[.int .u64 0, .int .u64 1, .int .u64 0, .int .u64 0, .int .u64 0, .int .u64 0, .int .u64 0] 89)).drewN k) = w' := by
  have hlt := blk_lt hP
  have p0 := blk_cell hP 0 rfl
  have p1 := blk_cell hP 1 rfl
  have f0 := blk_frozen hP 0
  have f1 := blk_frozen hP 1
  clear hP
  have HE := Lib.hid (And.intro eq er)
  clear eq er
  go_enter Tryz.func50, Tryz.ntmps50
  go_wp2_with fail
  go_region_with (first | (go_at_call 61; refine (lsh_10 a s hs hs1 HE.out.1 HE.out.2 _ ?_ ?_).mono ?_; (exact cx); (exact ha); rintro e w' ⟨rfl, rfl⟩))
  all_goals go_wp2
  all_goals go_ret
  all_goals exact ⟨rfl, 1, rfl⟩

set_option maxRecDepth 100000 in
set_option maxHeartbeats 1000000 in
theorem intLsh_11 (p a : Nat) (s : Int) (hs : 1 ≤ s) (hs1 : s ≤ 128) (eq : s / 64 = 1) (r : Int) (er : s % 64 = r) (r0 : 1 ≤ r) (r1 : r ≤ 63) (e1 : bits BinOp.and IntKind.u64 r 63 = r) (e2 : bits BinOp.and IntKind.u64 (64 - r) 63 = 64 - r) (T : Int) (eT : IntKind.u64.wrap (2 ^ r.toNat) = T) (e0 : (1 : Int) / 2 ^ (64 - r).toNat = 0) (T0 : (T == 0) = false) (w : World) (hP : w.heap[p]? = some (.cells #[.bool false, .slice (some ⟨a, 0, none⟩) 1 1] 78 (0, 0)))
    (cx : w.cell? ⟨a, 0, none⟩ = some (.int .u64 1)) (ha : a < w.heap.size) :
    Calls Tryz.prog 50 #[.pointer (some ⟨p, 0, none⟩), .pointer (some ⟨p, 0, none⟩), .int .u64 s] w fun e w' =>
      e = .returned (.pointer (some ⟨p, 0, none⟩)) ∧ ∃ k, ((((w.setCell ⟨p, 1, none⟩ (.slice (some ⟨w.heap.size, 0, none⟩) 2 7)).setCell ⟨p, 0, none⟩ (.bool false)).alloc (.cells #[.int .u64 0, .int .u64 T, .int .u64 0, .int .u64 0, .int .u64 0, .int .u64 0, .int .u64 0] 89)).drewN k) = w' := by
  have hlt := blk_lt hP
  have p0 := blk_cell hP 0 rfl
  have p1 := blk_cell hP 1 rfl
  have f0 := blk_frozen hP 0
  have f1 := blk_frozen hP 1
  clear hP
  have HE := Lib.hid (And.intro eq (And.intro er (And.intro e1 (And.intro e2 (And.intro eT (And.intro e0 T0))))))
  clear eq er e1 e2 eT e0 T0
  go_enter Tryz.func50, Tryz.ntmps50
  go_wp2_with fail
  go_region_with (first | (go_at_call 61; refine (lsh_11 a s hs hs1 HE.out.1 r HE.out.2.1 r0 r1 HE.out.2.2.1 HE.out.2.2.2.1 T HE.out.2.2.2.2.1 HE.out.2.2.2.2.2.1 HE.out.2.2.2.2.2.2 _ ?_ ?_).mono ?_; (exact cx); (exact ha); rintro e w' ⟨rfl, rfl⟩))
  all_goals go_wp2
  all_goals go_ret
  all_goals exact ⟨rfl, 1, rfl⟩

set_option maxRecDepth 100000 in
set_option maxHeartbeats 1000000 in
theorem intLsh_20 (p a : Nat) (s : Int) (hs : 1 ≤ s) (hs1 : s ≤ 128) (eq : s / 64 = 2) (er : s % 64 = 0) (w : World) (hP : w.heap[p]? = some (.cells #[.bool false, .slice (some ⟨a, 0, none⟩) 1 1] 78 (0, 0)))
    (cx : w.cell? ⟨a, 0, none⟩ = some (.int .u64 1)) (ha : a < w.heap.size) :
    Calls Tryz.prog 50 #[.pointer (some ⟨p, 0, none⟩), .pointer (some ⟨p, 0, none⟩), .int .u64 s] w fun e w' =>
      e = .returned (.pointer (some ⟨p, 0, none⟩)) ∧ ∃ k, ((((w.setCell ⟨p, 1, none⟩ (.slice (some ⟨w.heap.size, 0, none⟩) 3 8)).setCell ⟨p, 0, none⟩ (.bool false)).alloc (.cells #[.int .u64 0, .int .u64 0, .int .u64 1, .int .u64 0, .int .u64 0, .int .u64 0, .int .u64 0, .int .u64 0] 89)).drewN k) = w' := by
  have hlt := blk_lt hP
  have p0 := blk_cell hP 0 rfl
  have p1 := blk_cell hP 1 rfl
  have f0 := blk_frozen hP 0
  have f1 := blk_frozen hP 1
  clear hP
  have HE := Lib.hid (And.intro eq er)
  clear eq er
  go_enter Tryz.func50, Tryz.ntmps50
  go_wp2_with fail
  go_region_with (first | (go_at_call 61; refine (lsh_20 a s hs hs1 HE.out.1 HE.out.2 _ ?_ ?_).mono ?_; (exact cx); (exact ha); rintro e w' ⟨rfl, rfl⟩))
  all_goals go_wp2
  all_goals go_ret
  all_goals exact ⟨rfl, 1, rfl⟩
end Go.Proofs.YtjejffijhlppmaaGreatDoor
