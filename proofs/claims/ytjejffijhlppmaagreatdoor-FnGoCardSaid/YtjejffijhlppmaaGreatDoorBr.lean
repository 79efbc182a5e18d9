/-
  The contracts of Int.Bit, Int.SetBit (to 0), Int.Uint64.
-/
import Derived.Test.YtjejffijhlppmaaGreatDoorBp
import Derived.Test.YtjejffijhlppmaaGreatDoorBm
namespace Go.Proofs.YtjejffijhlppmaaGreatDoor
open Go.Dv Go.RowKit
set_option linter.unusedVariables false

theorem copy_two (ty : TypeId) (b q dc a sc : Nat) (v u : Int) (w : World) (hs : w.cell? ⟨a, 0, none⟩ = some (.int .u64 v)) (hs1 : w.cell? ⟨a, 1, none⟩ = some (.int .u64 u)) (hc : (w.cell? ⟨b, q, none⟩).isSome = true) (hf : w.frozen? ⟨b, q, none⟩ = false) (hc1 : (w.cell? ⟨b, q + 1, none⟩).isSome = true) (hf1 : w.frozen? ⟨b, q + 1, none⟩ = false) :
    (Builtin.copy_ #[76, 76] ty #[.slice (some ⟨b, q, none⟩) 2 dc, .slice (some ⟨a, 0, none⟩) 2 sc]).run Tryz.prog w = .ok (goInt 2) ((w.setCell ⟨b, q, none⟩ (.int .u64 v)).setCell ⟨b, q + 1, none⟩ (.int .u64 u)) :=
  run_copy_cells w 76 76 ty 89 b q 2 dc ⟨a, 0, none⟩ 2 sc [.int .u64 v, .int .u64 u] Tryz.underlying76 cells_word rfl
  (fun j x h => by
      rcases j with _ | _ | j
      · simp at h; subst h; exact hs
      · simp at h; subst h; exact hs1
      · simp at h)
    (fun j h => by
      have : j = 0 ∨ j = 1 := by simp at h; omega
      rcases this with rfl | rfl
      · exact hc
      · exact hc1) (fun j h => by
      have : j = 0 ∨ j = 1 := by simp at h; omega
      rcases this with rfl | rfl
      · exact hf
      · exact hf1) (by simp [Value.oneCell'])

theorem get_set (cs : Array Value) (i : Nat) (v u : Value) (h : cs[i]? = some u) : (cs.setIfInBounds i v)[i]? = some v := by
  have : i < cs.size := by
    by_cases hi : i < cs.size
    · exact hi
    · rw [Array.getElem?_eq_none (by omega)] at h; exact absurd h (by simp)
  simp [this]
theorem get_other (cs : Array Value) (i j : Nat) (v : Value) (h : i ≠ j) : (cs.setIfInBounds i v)[j]? = cs[j]? := by
  simp [h]

set_option maxHeartbeats 1000000 in
theorem setBit_1 (a cap : Nat) (cells : Array Value) (hcap : 1 ≤ cap) (x0 i T R : Int) (hi : 0 < i) (hi1 : i < 64) (eT : IntKind.u64.wrap (2 ^ i.toNat) = T) (eR : bits .andNot .u64 x0 T = R) (hR : (R == 0) = false) (w : World)
    (hA : w.heap[a]? = some (.cells cells 89 (0, 0))) (hx : cells[0]? = some (.int .u64 x0)) :
    Calls Tryz.prog 69 #[.slice (some ⟨a, 0, none⟩) 1 cap, .slice (some ⟨a, 0, none⟩) 1 cap, .int .u64 i, .int .u64 0] w fun e w' =>
      e = .returned (.slice (some ⟨a, 0, none⟩) 1 cap) ∧ (w.setCell ⟨a, 0, none⟩ (.int .u64 x0)).setCell ⟨a, 0, none⟩ (.int .u64 R) = w' := by
  have c0 := blk_cell hA 0 hx
  have f0 := blk_frozen hA 0
  have q0 : i / 64 = 0 := by omega
  have q1 : i % 64 = i := by omega
  have hcp := fun ty => copy_one ty a 0 cap a cap x0 w c0 (by rw [c0]; rfl) f0
  have HR := Lib.hid hR
  have HF := Lib.hid (blk_cell (blk_set (blk_set hA 0 (.int .u64 x0)) 0 (.int .u64 R)) 0 (get_set _ 0 _ _ (get_set _ 0 _ _ hx)))
  clear hR hA hx
  go_enter Tryz.func69, Tryz.ntmps69
  go_wp2_with (first | (go_at_call 72; refine (make_reuse _ 1 cap 1 (by omega) _).mono ?_; rintro e w' ⟨rfl, rfl⟩))
  refine (norm_any a cap 1 1 (fun j => R) _ ?hc (by omega) (by omega) (by omega) ?hz ?hn).mono ?_
  case hc =>
    intro j hj
    have hj2 : j = 0 := by omega
    subst hj2
    exact HF.out
  case hz =>
    intro j h1 h2
    omega
  case hn => intro _; exact HR.out
  rintro e w' ⟨rfl, rfl⟩
  go_wp2
  go_ret
  exact ⟨rfl, rfl⟩

set_option maxHeartbeats 1000000 in
theorem setBit_2 (a cap : Nat) (cells : Array Value) (hcap : 2 ≤ cap) (x0 : Int) (hR : (x0 == 0) = false) (w : World)
    (hA : w.heap[a]? = some (.cells cells 89 (0, 0))) (hx : cells[0]? = some (.int .u64 x0)) (hx1 : cells[1]? = some (.int .u64 1)) :
    Calls Tryz.prog 69 #[.slice (some ⟨a, 0, none⟩) 2 cap, .slice (some ⟨a, 0, none⟩) 2 cap, .int .u64 64, .int .u64 0] w fun e w' =>
      e = .returned (.slice (some ⟨a, 0, none⟩) 1 cap) ∧ ((w.setCell ⟨a, 0, none⟩ (.int .u64 x0)).setCell ⟨a, 1, none⟩ (.int .u64 1)).setCell ⟨a, 1, none⟩ (.int .u64 0) = w' := by
  have c0 := blk_cell hA 0 hx
  have f0 := blk_frozen hA 0
  have c1 := blk_cell hA 1 hx1
  have f1 := blk_frozen hA 1
  have hcp := fun ty => copy_two ty a 0 cap a cap x0 1 w c0 c1 (by rw [c0]; rfl) f0 (by rw [c1]; rfl) f1
  have hk : bits .andNot .u64 1 1 = 0 := by decide
  have hB := blk_set (blk_set (blk_set hA 0 (.int .u64 x0)) 1 (.int .u64 1)) 1 (.int .u64 0)
  have HF0 := Lib.hid (blk_cell hB 0 (v := .int .u64 x0) (by rw [get_other _ 1 0 _ (by omega), get_other _ 1 0 _ (by omega)]; exact get_set _ 0 _ _ hx))
  have HF1 := Lib.hid (blk_cell hB 1 (get_set _ 1 _ (.int .u64 1) (get_set _ 1 _ (.int .u64 1) (by rw [get_other _ 0 1 _ (by omega)]; exact hx1))))
  have HR := Lib.hid hR
  clear hR hA hx hx1 hB
  go_enter Tryz.func69, Tryz.ntmps69
  go_wp2_with (first | (go_at_call 72; refine (make_reuse _ 2 cap 2 (by omega) _).mono ?_; rintro e w' ⟨rfl, rfl⟩))
  refine (norm_any a cap 2 1 (dg x0 0 0) _ ?hc (by omega) (by omega) (by omega) ?hz ?hn).mono ?_
  case hc =>
    intro j hj
    have hj2 : j = 0 ∨ j = 1 := by omega
    rcases hj2 with rfl | rfl
    · exact HF0.out
    · exact HF1.out
  case hz =>
    intro j h1 h2
    have hj2 : j = 1 := by omega
    subst hj2
    rfl
  case hn => intro _; exact HR.out
  rintro e w' ⟨rfl, rfl⟩
  go_wp2
  go_ret
  exact ⟨rfl, rfl⟩

variable {B : Nat} {w0 w : World} {c cw p a : Nat} {d : Int} {n cap : Nat} {cells : Array Value}
set_option maxHeartbeats 1000000 in
theorem intBit_A (h : MS B w0 w c cw p a d 1 cap cells) (x i v : Int) (hi : 0 < i) (hi1 : i < 64) (hx : cells[0]? = some (.int .u64 x)) (hv : bits .and .u64 (x / 2 ^ i.toNat) 1 = v) :
    Calls Tryz.prog 54 #[.pointer (some ⟨p, 0, none⟩), .int .i64 i] w fun e w' => e = .returned (.int .u64 v) ∧ w = w' := by
  have p0 := blk_cell h.hp 0 rfl
  have p1 := blk_cell h.hp 1 rfl
  have c0 := blk_cell h.ha 0 hx
  have hi0 : (i == 0) = false := by simp; omega
  have q0 : i / 64 = 0 := by omega
  have q1 : i % 64 = i := by omega
  clear h hx
  go_enter Tryz.func54, Tryz.ntmps54
  go_wp2_with (go_in)
  go_ret
  exact ⟨rfl, rfl⟩
set_option maxHeartbeats 1000000 in
theorem intBit_B (h : MS B w0 w c cw p a d 2 cap cells) (x v : Int) (hx : cells[1]? = some (.int .u64 x)) (hv : bits .and .u64 x 1 = v) :
    Calls Tryz.prog 54 #[.pointer (some ⟨p, 0, none⟩), .int .i64 64] w fun e w' => e = .returned (.int .u64 v) ∧ w = w' := by
  have p0 := blk_cell h.hp 0 rfl
  have p1 := blk_cell h.hp 1 rfl
  have c0 := blk_cell h.ha 1 hx
  clear h hx
  go_enter Tryz.func54, Tryz.ntmps54
  go_wp2_with (go_in)
  go_ret
  exact ⟨rfl, rfl⟩
set_option maxHeartbeats 1000000 in
theorem intBit_C (h : MS B w0 w c cw p a d 1 cap cells) :
    Calls Tryz.prog 54 #[.pointer (some ⟨p, 0, none⟩), .int .i64 64] w fun e w' => e = .returned (.int .u64 0) ∧ w = w' := by
  have p0 := blk_cell h.hp 0 rfl
  have p1 := blk_cell h.hp 1 rfl
  clear h
  go_enter Tryz.func54, Tryz.ntmps54
  go_wp2_with (go_in)
  go_ret
  exact ⟨rfl, rfl⟩
set_option maxHeartbeats 1000000 in
theorem intUint64_any (h : MS B w0 w c cw p a d n cap cells) (hn : 1 ≤ n) (x : Int) (hx : cells[0]? = some (.int .u64 x)) :
    Calls Tryz.prog 56 #[.pointer (some ⟨p, 0, none⟩)] w fun e w' => e = .returned (.int .u64 x) ∧ w = w' := by
  have p1 := blk_cell h.hp 1 rfl
  have c0 := blk_cell h.ha 0 hx
  clear h hx
  have hn1 : (n : Int) ≠ 0 := by omega
  have hn2 : (n == 0) = false := by simp; omega
  go_enter Tryz.func56, Tryz.ntmps56
  go_wp2_with (go_in)
  go_ret
  exact ⟨rfl, rfl⟩

set_option maxRecDepth 100000 in
set_option maxHeartbeats 4000000 in
theorem intSetBit_1 (h : MS B w0 w c cw p a d 1 cap cells) (hcap : 1 ≤ cap) (x0 i T R : Int) (hi : 0 < i) (hi1 : i < 64) (hx : cells[0]? = some (.int .u64 x0)) (eT : IntKind.u64.wrap (2 ^ i.toNat) = T) (eR : bits .andNot .u64 x0 T = R) (hR : (R == 0) = false) :
    Calls Tryz.prog 55 #[.pointer (some ⟨p, 0, none⟩), .pointer (some ⟨p, 0, none⟩), .int .i64 i, .int .u64 0] w fun e w' =>
      e = .returned (.pointer (some ⟨p, 0, none⟩)) ∧ ∃ cells', cells'[0]? = some (.int .u64 R) ∧ MS B w0 w' c cw p a d 1 cap cells' := by
  have p0 := blk_cell h.hp 0 rfl
  have p1 := blk_cell h.hp 1 rfl
  have f0 := blk_frozen h.hp 0
  have f1 := blk_frozen h.hp 1
  have hpa := h.pa
  have H := Lib.hid h
  have hwi : IntKind.u64.wrap i = i := by rw [IntKind.wrap_u64]; omega
  have HE := Lib.hid (And.intro eT (And.intro eR hR))
  have HA := Lib.hid h.ha
  have HX := Lib.hid hx
  clear h hx eT eR hR
  go_enter Tryz.func55, Tryz.ntmps55
  go_wp2_with fail
  go_region_with (first | (go_at_call 69; refine (setBit_1 a cap cells hcap x0 i T R hi hi1 HE.out.1 HE.out.2.1 HE.out.2.2 _ ?_ HX.out).mono ?_; (exact HA.out); rintro e w' ⟨rfl, rfl⟩))
  all_goals (go_wp2_with fail)
  all_goals go_ret
  all_goals refine ⟨rfl, _, get_set _ 0 _ _ (get_set _ 0 (.int .u64 x0) _ HX.out), ?_⟩
  all_goals exact ((((H.out.word 0 _).word 0 _).hdr 1 cap).neg).drewN _

set_option maxRecDepth 100000 in
set_option maxHeartbeats 4000000 in
theorem intSetBit_2 (h : MS B w0 w c cw p a d 2 cap cells) (hcap : 2 ≤ cap) (x0 : Int) (hx : cells[0]? = some (.int .u64 x0)) (hx1 : cells[1]? = some (.int .u64 1)) (hR : (x0 == 0) = false) :
    Calls Tryz.prog 55 #[.pointer (some ⟨p, 0, none⟩), .pointer (some ⟨p, 0, none⟩), .int .i64 64, .int .u64 0] w fun e w' =>
      e = .returned (.pointer (some ⟨p, 0, none⟩)) ∧ ∃ cells', cells'[0]? = some (.int .u64 x0) ∧ MS B w0 w' c cw p a d 1 cap cells' := by
  have p0 := blk_cell h.hp 0 rfl
  have p1 := blk_cell h.hp 1 rfl
  have f0 := blk_frozen h.hp 0
  have f1 := blk_frozen h.hp 1
  have hpa := h.pa
  have H := Lib.hid h
  have HA := Lib.hid h.ha
  have HX := Lib.hid hx
  have HX1 := Lib.hid hx1
  have HR := Lib.hid hR
  clear h hx hx1 hR
  go_enter Tryz.func55, Tryz.ntmps55
  go_wp2_with fail
  go_region_with (first | (go_at_call 69; refine (setBit_2 a cap cells hcap x0 HR.out _ ?_ HX.out HX1.out).mono ?_; (exact HA.out); rintro e w' ⟨rfl, rfl⟩))
  all_goals (go_wp2_with fail)
  all_goals go_ret
  all_goals refine ⟨rfl, _, (get_other _ 1 0 (.int .u64 0) (by omega)).trans ((get_other _ 1 0 (.int .u64 1) (by omega)).trans (get_set _ 0 (.int .u64 x0) _ HX.out)), ?_⟩
  all_goals exact (((((H.out.word 0 _).word 1 _).word 1 _).hdr 1 cap).neg).drewN _
end Go.Proofs.YtjejffijhlppmaaGreatDoor
