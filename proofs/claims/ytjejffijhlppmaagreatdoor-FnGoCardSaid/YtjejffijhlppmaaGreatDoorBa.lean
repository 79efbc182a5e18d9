/-
  Contracts of the small functions of big2: make, norm.
-/
import Derived.Test.YtjejffijhlppmaaGreatDoorRows
import Derived.Test.YtjejffijhlppmaaGreatDoorTz
import Derived.Deep.QuietTactic
import Derived.BigQuiet
import Derived.WalkLawsBesides
import Derived.WalkSpells
namespace Go.Proofs.YtjejffijhlppmaaGreatDoor
open Go.Dv Go.RowKit
set_option linter.unusedVariables false

theorem make_reuse (a : Option Addr) (len cap n : Nat) (hn : n ≤ cap) (w : World) :
    Calls Tryz.prog 72 #[.slice a len cap, .int .i64 n] w fun e w' => e = .returned (.slice a n cap) ∧ w = w' := by
  go_enter Tryz.func72, Tryz.ntmps72
  go_wp2
  go_ret
  exact ⟨rfl, rfl⟩

theorem make_one (w : World) :
    Calls Tryz.prog 72 #[.slice none 0 0, .int .i64 1] w fun e w' => e = .returned (.slice (some ⟨w.heap.size, 0, none⟩) 1 1) ∧ w.alloc (.cells #[.int .u64 0] 89) = w' := by
  have hmk : ∀ w, (Instr.makeSlice 76 (.int .i64 1) (.int .i64 1)).run Tryz.prog w = .ok (.slice (some ⟨w.heap.size, 0, none⟩) 1 1) (w.alloc (.cells #[.int .u64 0] 89)) := fun _ => by kernel_rfl
  go_enter Tryz.func72, Tryz.ntmps72
  go_wp2
  go_ret
  exact ⟨rfl, rfl⟩

theorem make_two (a : Option Addr) (w : World) :
    Calls Tryz.prog 72 #[.slice a 1 1, .int .i64 2] w fun e w' => e = .returned (.slice (some ⟨w.heap.size, 0, none⟩) 2 6) ∧ w.alloc (.cells #[.int .u64 0, .int .u64 0, .int .u64 0, .int .u64 0, .int .u64 0, .int .u64 0] 89) = w' := by
  have hmk : ∀ w, (Instr.makeSlice 76 (.int .i64 2) (.int .i64 6)).run Tryz.prog w = .ok (.slice (some ⟨w.heap.size, 0, none⟩) 2 6) (w.alloc (.cells #[.int .u64 0, .int .u64 0, .int .u64 0, .int .u64 0, .int .u64 0, .int .u64 0] 89)) := fun _ => by kernel_rfl
  go_enter Tryz.func72, Tryz.ntmps72
  go_wp2
  go_ret
  exact ⟨rfl, rfl⟩

theorem make_three (a : Option Addr) (w : World) :
    Calls Tryz.prog 72 #[.slice a 1 1, .int .i64 3] w fun e w' => e = .returned (.slice (some ⟨w.heap.size, 0, none⟩) 3 7) ∧ w.alloc (.cells #[.int .u64 0, .int .u64 0, .int .u64 0, .int .u64 0, .int .u64 0, .int .u64 0, .int .u64 0] 89) = w' := by
  have hmk : ∀ w, (Instr.makeSlice 76 (.int .i64 3) (.int .i64 7)).run Tryz.prog w = .ok (.slice (some ⟨w.heap.size, 0, none⟩) 3 7) (w.alloc (.cells #[.int .u64 0, .int .u64 0, .int .u64 0, .int .u64 0, .int .u64 0, .int .u64 0, .int .u64 0] 89)) := fun _ => by kernel_rfl
  go_enter Tryz.func72, Tryz.ntmps72
  go_wp2
  go_ret
  exact ⟨rfl, rfl⟩

theorem make_four (a : Option Addr) (w : World) :
    Calls Tryz.prog 72 #[.slice a 1 1, .int .i64 4] w fun e w' => e = .returned (.slice (some ⟨w.heap.size, 0, none⟩) 4 8) ∧ w.alloc (.cells #[.int .u64 0, .int .u64 0, .int .u64 0, .int .u64 0, .int .u64 0, .int .u64 0, .int .u64 0, .int .u64 0] 89) = w' := by
  have hmk : ∀ w, (Instr.makeSlice 76 (.int .i64 4) (.int .i64 8)).run Tryz.prog w = .ok (.slice (some ⟨w.heap.size, 0, none⟩) 4 8) (w.alloc (.cells #[.int .u64 0, .int .u64 0, .int .u64 0, .int .u64 0, .int .u64 0, .int .u64 0, .int .u64 0, .int .u64 0] 89)) := fun _ => by kernel_rfl
  go_enter Tryz.func72, Tryz.ntmps72
  go_wp2
  go_ret
  exact ⟨rfl, rfl⟩

set_option maxHeartbeats 1000000 in
theorem norm_any (b cap n i : Nat) (d : Nat → Int) (w : World) (hc : ∀ j, j < n → w.cell? ⟨b, j, none⟩ = some (.int .u64 (d j))) (hi : i ≤ n) (hn : n ≤ cap) (hm : n ≤ 1000)
    (hz : ∀ j, i ≤ j → j < n → d j = 0) (hnz : 0 < i → (d (i - 1) == 0) = false) :
    Calls Tryz.prog 78 #[.slice (some ⟨b, 0, none⟩) n cap] w fun e w' => e = .returned (.slice (some ⟨b, 0, none⟩) i cap) ∧ w = w' := by
  have HC := Lib.hid hc
  have HZ := Lib.hid hz
  have HN := Lib.hid hnz
  clear hc hz hnz
  go_enter Tryz.func78, Tryz.ntmps78
  go_wp2
  go_loop [3] (fun t => ∃ k : Nat, i ≤ k ∧ k ≤ n ∧ t = .int .i64 k) (fun t => (intOf t).toNat)
  case atStart => exact ⟨n, hi, Nat.le_refl _, rfl⟩
  case round =>
    obtain ⟨k, hk, hkn, rfl⟩ := hrel
    by_cases hlt : i < k
    · have hcell : w.cell? ⟨b, k - 1, none⟩ = some (.int .u64 0) := by
        rw [HC.out (k - 1) (by omega), HZ.out (k - 1) (by omega) (by omega)]
      go_wp2
      go_round
      case rel => exact ⟨k - 1, by omega, by omega, by go_num⟩
      case measure => simp [intOf]; omega
    · obtain rfl : k = i := by omega
      by_cases h0 : 0 < k
      · have hcell : w.cell? ⟨b, k - 1, none⟩ = some (.int .u64 (d (k - 1))) := HC.out (k - 1) (by omega)
        have hne := HN.out h0
        go_wp2
        go_ret
        exact ⟨rfl, rfl⟩
      · obtain rfl : k = 0 := by omega
        go_wp2
        go_ret
        exact ⟨rfl, rfl⟩
end Go.Proofs.YtjejffijhlppmaaGreatDoor
