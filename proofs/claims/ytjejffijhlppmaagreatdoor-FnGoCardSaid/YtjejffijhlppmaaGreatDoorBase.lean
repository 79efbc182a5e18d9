/-
  Contracts of the small functions: Width, Mask, Signed, Power and the six questions whether a division or a test is turned.
-/
import Derived.Test.YtjejffijhlppmaaGreatDoorRows
import Derived.ProofKit
import Derived.OpenShut
import Derived.Test.YtjejffijhlppmaaGreatDoorDvW
namespace Go.Proofs.YtjejffijhlppmaaGreatDoor
open Go.Dv Go.RowKit

theorem width_any (a : Int) (h0 : 0 ≤ a) (h1 : a ≤ 255) (w : World) :
    Calls Tryz.prog 14 #[.int .u8 a] w fun e w' => e = .returned (.int .u64 (wid a)) ∧ w = w' := by
  have h2 : 0 ≤ bits BinOp.and IntKind.u8 a 3 := by rw [and3 a h0 h1]; omega
  have hf : IntKind.u64.wrap (8 * 2 ^ min (bits BinOp.and IntKind.u8 a 3).toNat 64) = wid a := by
    unfold wid
    rw [and3 a h0 h1, IntKind.wrap_u64]
    have h : a % 4 = 0 ∨ a % 4 = 1 ∨ a % 4 = 2 ∨ a % 4 = 3 := by omega
    rcases h with h | h | h | h <;> rw [h] <;> decide
  have HF := Lib.hid hf
  clear hf
  go_enter Tryz.func14, Tryz.ntmps14
  go_wp2
  go_ret
  exact ⟨ret_int HF.out, rfl⟩

theorem mask_any (n : Int) (hn : isW n) (w : World) :
    Calls Tryz.prog 15 #[.int .u64 n] w fun e w' => e = .returned (.int .u64 (msk n)) ∧ w = w' := by
  obtain ⟨h0, h1⟩ := isW_range hn
  clear hn
  go_enter Tryz.func15, Tryz.ntmps15
  go_wp2
  go_ret
  exact ⟨rfl, rfl⟩

theorem signed_any (n x : Int) (hn : isW n) (w : World) :
    Calls Tryz.prog 30 #[.int .u64 n, .int .u64 x] w fun e w' => e = .returned (.int .i64 (sgn n x)) ∧ w = w' := by
  obtain ⟨h0, h1⟩ := isW_range hn
  clear hn
  go_enter Tryz.func30, Tryz.ntmps30
  go_wp2
  go_ret
  exact ⟨ret_int (by unfold sgn; rw [IntWalk.i64_left]), rfl⟩

theorem power_any (c : Int) (w : World) :
    Calls Tryz.prog 16 #[.int .u64 c] w fun e w' => e = .returned (.bool (powW c)) ∧ w = w' := by
  by_cases h : (c == 0) = true
  · obtain rfl : c = 0 := by simpa using h
    clear h
    go_enter Tryz.func16, Tryz.ntmps16
    go_wp2
    go_ret
    exact ⟨ret_bool (by decide), rfl⟩
  · have h' : (c == 0) = false := by simpa using h
    have hp : powW c = (bits .and .u64 c (IntKind.u64.wrap (c - 1)) == 0) := by unfold powW; rw [h']; simp
    have HP := Lib.hid hp
    have h2 : (c != 0) = true := by unfold bne; rw [h']; rfl
    clear hp h h'
    go_enter Tryz.func16, Tryz.ntmps16
    go_wp2
    go_ret
    exact ⟨ret_bool HP.out.symm, rfl⟩
end Go.Proofs.YtjejffijhlppmaaGreatDoor
