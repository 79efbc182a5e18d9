/-
  Contracts of the vectors' functions of big2, at the lengths that are met: addVV, subVV of one word, addVW, subVW in place without a carry.
-/
import Derived.Test.YtjejffijhlppmaaGreatDoorBa
import Derived.Laws.Externs
import Derived.Shelf.Spec.BitsCarry
import Derived.LaidEqlPtr
import Derived.Deep.RegionWith
import Derived.Deep.RegionHeld3
namespace Go.Dv
/-- the low word, the carry -/
def lo (x : Int) : Int := x % 18446744073709551616
def hi (x : Int) : Int := x / 18446744073709551616
/-- difference and borrow -/
def sb (x y b : Int) : Int := (x + 18446744073709551616 - y - b) % 18446744073709551616
def bw (x y b : Int) : Int := if x < y + b then 1 else 0
theorem lo_range (x : Int) : 0 ≤ lo x ∧ lo x < 18446744073709551616 := by
  unfold lo; exact ⟨Int.emod_nonneg _ (by omega), Int.emod_lt_of_pos _ (by omega)⟩
theorem sb_range (x y b : Int) : 0 ≤ sb x y b ∧ sb x y b < 18446744073709551616 := by
  unfold sb; exact ⟨Int.emod_nonneg _ (by omega), Int.emod_lt_of_pos _ (by omega)⟩
end Go.Dv
namespace Go.Proofs.YtjejffijhlppmaaGreatDoor
open Go.Dv Go.RowKit
set_option linter.unusedVariables false

theorem run_add (x y c : Int) (hx : 0 ≤ x) (hy : 0 ≤ y) (hc0 : 0 ≤ c) (hc : c ≤ 1) (w : World) :
    (callFunc 96 #[.int .u64 x, .int .u64 y, .int .u64 c]).run Tryz.prog w = .ok (.value (.tuple #[.int .u64 (lo (x + y + c)), .int .u64 (hi (x + y + c))])) w := by
  rw [run_callFunc_extern Tryz.func96 (by kernel_rfl) (by kernel_rfl) (by kernel_rfl) (e := add64Entry) (by kernel_rfl), run_add64 x y c hx hy hc0 hc]
  rfl
theorem run_sub (x y b : Int) (hx : 0 ≤ x) (hx1 : x < 18446744073709551616) (hy : 0 ≤ y) (hy1 : y < 18446744073709551616) (hc0 : 0 ≤ b) (hc : b ≤ 1) (w : World) :
    (callFunc 98 #[.int .u64 x, .int .u64 y, .int .u64 b]).run Tryz.prog w = .ok (.value (.tuple #[.int .u64 (sb x y b), .int .u64 (bw x y b)])) w := by
  obtain ⟨x, rfl⟩ := Int.eq_ofNat_of_zero_le hx
  obtain ⟨y, rfl⟩ := Int.eq_ofNat_of_zero_le hy
  obtain ⟨b, rfl⟩ := Int.eq_ofNat_of_zero_le hc0
  rw [run_callFunc_extern Tryz.func98 (by kernel_rfl) (by kernel_rfl) (by kernel_rfl) (e := sub64Entry) (by kernel_rfl), run_sub64 x y b (by omega)]
  have e1 : sb (x : Int) (y : Int) (b : Int) = (((x + 18446744073709551616 - y - b) % 18446744073709551616 : Nat) : Int) := by unfold sb; omega
  have e2 : bw (x : Int) (y : Int) (b : Int) = ((if x < y + b then 1 else 0 : Nat) : Int) := by unfold bw; split <;> split <;> omega
  rw [e1, e2]; rfl

theorem add_any (x y c : Int) (hx : 0 ≤ x) (hy : 0 ≤ y) (hc0 : 0 ≤ c) (hc : c ≤ 1) (w : World) :
    Calls Tryz.prog 88 #[.int .u64 x, .int .u64 y, .int .u64 c] w fun e w' => e = .returned (.tuple #[.int .u64 (lo (x + y + c)), .int .u64 (hi (x + y + c))]) ∧ w = w' := by
  have hr := run_add x y c hx hy hc0 hc
  go_enter Tryz.func88, Tryz.ntmps88
  go_wp2
  go_ret2
  exact ⟨rfl, rfl⟩
theorem sub_any (x y c : Int) (hx : 0 ≤ x) (hx1 : x < 18446744073709551616) (hy : 0 ≤ y) (hy1 : y < 18446744073709551616) (hc0 : 0 ≤ c) (hc : c ≤ 1) (w : World) :
    Calls Tryz.prog 90 #[.int .u64 x, .int .u64 y, .int .u64 c] w fun e w' => e = .returned (.tuple #[.int .u64 (sb x y c), .int .u64 (bw x y c)]) ∧ w = w' := by
  have hr := run_sub x y c hx hx1 hy hy1 hc0 hc
  go_enter Tryz.func90, Tryz.ntmps90
  go_wp2
  go_ret2
  exact ⟨rfl, rfl⟩

set_option maxHeartbeats 1000000 in
theorem addVV_one (zb xb yb : Nat) (zc xc yc : Nat) (x y : Int) (hx : 0 ≤ x) (hx1 : x < 18446744073709551616) (hy : 0 ≤ y) (hy1 : y < 18446744073709551616) (w : World)
    (cx : w.cell? ⟨xb, 0, none⟩ = some (.int .u64 x)) (cy : w.cell? ⟨yb, 0, none⟩ = some (.int .u64 y)) (fz : w.frozen? ⟨zb, 0, none⟩ = false) (v : Value) (cz : w.cell? ⟨zb, 0, none⟩ = some v) :
    Calls Tryz.prog 79 #[.slice (some ⟨zb, 0, none⟩) 1 zc, .slice (some ⟨xb, 0, none⟩) 1 xc, .slice (some ⟨yb, 0, none⟩) 1 yc] w fun e w' =>
      e = .returned (.int .u64 (hi (x + y))) ∧ ∃ q, (w.setCell ⟨zb, 0, none⟩ (.int .u64 (lo (x + y)))).drewN q = w' := by
  go_enter Tryz.func79, Tryz.ntmps79
  go_wp2_with (go_in)
  refine wp_loop_rounds 2 ?_
  rw [rounds_succ]
  go_wp2_with fail
  go_quiet ((go_at_call 88; exact quietS (add_any x y 0 hx hy (by omega) (by omega) _)))
  go_wp2_with fail
  rw [rounds_succ]
  go_wp2_with fail
  go_ret
  exact ⟨rfl, _, rfl⟩

set_option maxHeartbeats 1000000 in
theorem subVV_one (zb xb yb : Nat) (zc xc yc : Nat) (x y : Int) (hx : 0 ≤ x) (hx1 : x < 18446744073709551616) (hy : 0 ≤ y) (hy1 : y < 18446744073709551616) (w : World)
    (cx : w.cell? ⟨xb, 0, none⟩ = some (.int .u64 x)) (cy : w.cell? ⟨yb, 0, none⟩ = some (.int .u64 y)) (fz : w.frozen? ⟨zb, 0, none⟩ = false) (v : Value) (cz : w.cell? ⟨zb, 0, none⟩ = some v) :
    Calls Tryz.prog 81 #[.slice (some ⟨zb, 0, none⟩) 1 zc, .slice (some ⟨xb, 0, none⟩) 1 xc, .slice (some ⟨yb, 0, none⟩) 1 yc] w fun e w' =>
      e = .returned (.int .u64 (bw x y 0)) ∧ ∃ q, (w.setCell ⟨zb, 0, none⟩ (.int .u64 (sb x y 0))).drewN q = w' := by
  go_enter Tryz.func81, Tryz.ntmps81
  go_wp2_with (go_in)
  refine wp_loop_rounds 2 ?_
  rw [rounds_succ]
  go_wp2_with fail
  go_quiet ((go_at_call 90; exact quietS (sub_any x y 0 hx hx1 hy hy1 (by omega) (by omega) _)))
  go_wp2_with fail
  rw [rounds_succ]
  go_wp2_with fail
  go_ret
  exact ⟨rfl, _, rfl⟩

theorem neq_same (b o : Nat) (w : World) : (binOp .neq 112 (.pointer (some ⟨b, o, none⟩)) (.pointer (some ⟨b, o, none⟩))).run Tryz.prog w = .ok (.bool false) w := by
  obtain ⟨j, hj⟩ := Option.isSome_iff_exists.1 (show (Tryz.prog.info? 89).isSome = true by kernel_rfl)
  have h : ∀ d : Nat, (Op.equalIn (d + 1) 112 (.pointer (some ⟨b, o, none⟩)) (.pointer (some ⟨b, o, none⟩))).run Tryz.prog w = .ok true w := fun d => by
    simp [Op.equalIn, run_underlying Tryz.underlying112, sizeOf, typeInfo, hj, run_sameAddr_same]
  simp only [binOp]
  simp [Op.equal, Op.maxDepth, h 9999]

theorem lo_id (x : Int) (hx : 0 ≤ x) (hx1 : x < 18446744073709551616) : lo x = x ∧ hi x = 0 ∧ sb x 0 0 = x ∧ bw x 0 0 = 0 := by
  unfold lo hi sb bw; refine ⟨by omega, by omega, by omega, ?_⟩
  rw [if_neg (by omega)]

set_option maxHeartbeats 1000000 in
theorem addVW_zero (b o n c : Nat) (hn : 0 < n) (x : Int) (hx : 0 ≤ x) (hx1 : x < 18446744073709551616) (w : World)
    (cx : w.cell? ⟨b, o, none⟩ = some (.int .u64 x)) (fz : w.frozen? ⟨b, o, none⟩ = false) :
    Calls Tryz.prog 80 #[.slice (some ⟨b, o, none⟩) n c, .slice (some ⟨b, o, none⟩) n c, .int .u64 0] w fun e w' =>
      e = .returned (.int .u64 0) ∧ ∃ q, (w.setCell ⟨b, o, none⟩ (.int .u64 x)).drewN q = w' := by
  obtain ⟨e1, e2, -, -⟩ := lo_id x hx hx1
  have hnq := neq_same b o
  go_enter Tryz.func80, Tryz.ntmps80
  go_wp2_with ((go_at_call 88; refine (add_any x 0 0 hx (by omega) (by omega) (by omega) _).mono ?_; rintro e w' ⟨rfl, rfl⟩))
  go_quiet (fail)
  go_wp2
  go_ret
  exact ⟨rfl, _, rfl⟩

set_option maxHeartbeats 1000000 in
theorem subVW_zero (b o n c : Nat) (hn : 0 < n) (x : Int) (hx : 0 ≤ x) (hx1 : x < 18446744073709551616) (w : World)
    (cx : w.cell? ⟨b, o, none⟩ = some (.int .u64 x)) (fz : w.frozen? ⟨b, o, none⟩ = false) :
    Calls Tryz.prog 82 #[.slice (some ⟨b, o, none⟩) n c, .slice (some ⟨b, o, none⟩) n c, .int .u64 0] w fun e w' =>
      e = .returned (.int .u64 0) ∧ ∃ q, (w.setCell ⟨b, o, none⟩ (.int .u64 x)).drewN q = w' := by
  obtain ⟨-, -, e1, e2⟩ := lo_id x hx hx1
  have hnq := neq_same b o
  go_enter Tryz.func82, Tryz.ntmps82
  go_wp2_with ((go_at_call 90; refine (sub_any x 0 0 hx hx1 (by omega) (by omega) (by omega) (by omega) _).mono ?_; rintro e w' ⟨rfl, rfl⟩))
  go_quiet (fail)
  go_wp2
  go_ret
  exact ⟨rfl, _, rfl⟩

set_option maxHeartbeats 1000000 in
theorem lshVU_one (zb zo xb zc xc : Nat) (s : Int) (hs : 1 ≤ s) (hs1 : s ≤ 63) (e1 : bits BinOp.and IntKind.u64 s 63 = s) (e2 : bits BinOp.and IntKind.u64 (64 - s) 63 = 64 - s) (T : Int) (eT : IntKind.u64.wrap (2 ^ s.toNat) = T) (e0 : (1 : Int) / 2 ^ (64 - s).toNat = 0) (w : World)
    (cx : w.cell? ⟨xb, 0, none⟩ = some (.int .u64 1)) (fz : w.frozen? ⟨zb, zo, none⟩ = false) (v : Value) (cz : w.cell? ⟨zb, zo, none⟩ = some v) :
    Calls Tryz.prog 77 #[.slice (some ⟨zb, zo, none⟩) 1 zc, .slice (some ⟨xb, 0, none⟩) 1 xc, .int .u64 s] w fun e w' =>
      e = .returned (.int .u64 0) ∧ w.setCell ⟨zb, zo, none⟩ (.int .u64 T) = w' := by
  go_enter Tryz.func77, Tryz.ntmps77
  go_wp2_with (go_in)
  refine wp_loop_rounds 1 ?_
  rw [rounds_succ]
  go_wp2_with fail
  go_ret
  exact ⟨rfl, rfl⟩
end Go.Proofs.YtjejffijhlppmaaGreatDoor
