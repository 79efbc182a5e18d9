/-
  The contract of Int.QuoRem, over a contract of nat.div.
-/
import Derived.Test.YtjejffijhlppmaaGreatDoorBm
import Derived.BigRegion
import Derived.Deep.Cut
import Derived.Deep.CutRange
namespace Go.Proofs.YtjejffijhlppmaaGreatDoor
open Go.Dv Go.RowKit
set_option linter.unusedVariables false

set_option maxRecDepth 100000 in
set_option maxHeartbeats 8000000 in
theorem quoRem_0 (p q rb a i n cap yb : Nat) (hi : 0 < i) (w W1 : World)
    (hD : ∀ m, Calls Tryz.prog 83 #[.slice (some ⟨a, 0, none⟩) n cap, .pointer none, .slice none 0 0, .slice (some ⟨a, 0, none⟩) n cap, .slice (some ⟨yb, 0, none⟩) 1 1] (w.drewN m) fun e w' =>
      e = .returned (.tuple #[.slice (some ⟨a, 0, none⟩) i cap, .slice none 0 0]) ∧ ∃ k, W1.drewN k = w')
    (p1 : w.cell? ⟨p, 1, none⟩ = some (.slice (some ⟨a, 0, none⟩) n cap)) (q1 : w.cell? ⟨q, 1, none⟩ = some (.slice (some ⟨yb, 0, none⟩) 1 1)) (s1 : w.cell? ⟨rb, 1, none⟩ = some (.slice none 0 0))
    (P0 : W1.cell? ⟨p, 0, none⟩ = some (.bool false)) (P1 : W1.cell? ⟨p, 1, none⟩ = some (.slice (some ⟨a, 0, none⟩) n cap)) (Q0 : W1.cell? ⟨q, 0, none⟩ = some (.bool false)) (Q1 : W1.cell? ⟨q, 1, none⟩ = some (.slice (some ⟨yb, 0, none⟩) 1 1))
    (S0 : W1.cell? ⟨rb, 0, none⟩ = some (.bool false)) (S1 : W1.cell? ⟨rb, 1, none⟩ = some (.slice none 0 0))
    (F0 : W1.frozen? ⟨p, 0, none⟩ = false) (F1 : W1.frozen? ⟨p, 1, none⟩ = false) (G0 : W1.frozen? ⟨rb, 0, none⟩ = false) (G1 : W1.frozen? ⟨rb, 1, none⟩ = false) (hpr : p ≠ rb) (hpq : p ≠ q) (hqr : q ≠ rb) :
    Calls Tryz.prog 65 #[.pointer (some ⟨p, 0, none⟩), .pointer (some ⟨p, 0, none⟩), .pointer (some ⟨q, 0, none⟩), .pointer (some ⟨rb, 0, none⟩)] w fun e w' =>
      e = .returned (.tuple #[.pointer (some ⟨p, 0, none⟩), .pointer (some ⟨rb, 0, none⟩)]) ∧ ∃ k, ((((W1.setCell ⟨p, 1, none⟩ (.slice (some ⟨a, 0, none⟩) i cap)).setCell ⟨rb, 1, none⟩ (.slice none 0 0)).setCell ⟨p, 0, none⟩ (.bool false)).setCell ⟨rb, 0, none⟩ (.bool false)).drewN k = w' := by
  have HD := Lib.hid hD
  clear hD
  have hi1 : decide ((0 : Int) < (i : Int)) = true := by simp; omega
  have hi2 : (0 : Int) < (i : Int) := by omega
  go_enter Tryz.func65, Tryz.ntmps65
  go_upto_region 1 with fail
  go_cut [10] from 10 to 35 (fun _ wx => ∃ k, ((W1.setCell ⟨p, 1, none⟩ (.slice (some ⟨a, 0, none⟩) i cap)).setCell ⟨rb, 1, none⟩ (.slice none 0 0)).drewN k = wx)
  case first =>
    go_region_with (first | (go_at_call 83; refine (HD.out _).mono ?_; rintro e w' ⟨rfl, k, rfl⟩))
    all_goals (go_wp2_with fail)
    all_goals go_meet
    all_goals exact ⟨_, rfl⟩
  case rest =>
    obtain ⟨k, rfl⟩ := hcut
    go_upto_region 2 with fail
    go_region
    all_goals (go_wp2_with fail)
    all_goals go_ret2
    all_goals exact ⟨rfl, _, rfl⟩
end Go.Proofs.YtjejffijhlppmaaGreatDoor
