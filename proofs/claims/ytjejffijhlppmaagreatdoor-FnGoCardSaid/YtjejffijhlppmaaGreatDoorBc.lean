/-
  The contract of nat.lsh at the number 1, by the place of the bit.
-/
import Derived.Test.YtjejffijhlppmaaGreatDoorBb
import Derived.Lib.SliceRun
namespace Go.Proofs.YtjejffijhlppmaaGreatDoor
open Go.Dv Go.RowKit
set_option linter.unusedVariables false

theorem cells_word : (Tryz.prog.info? 89).map (·.size) = some 1 := by kernel_rfl
theorem zero_word (w : World) : (zeroValue 89).run Tryz.prog w = .ok (.int .u64 0) w := by kernel_rfl
theorem copy_one (ty : TypeId) (b q dc a sc : Nat) (v : Int) (w : World) (hs : w.cell? ⟨a, 0, none⟩ = some (.int .u64 v)) (hc : (w.cell? ⟨b, q, none⟩).isSome = true) (hf : w.frozen? ⟨b, q, none⟩ = false) :
    (Builtin.copy_ #[76, 76] ty #[.slice (some ⟨b, q, none⟩) 1 dc, .slice (some ⟨a, 0, none⟩) 1 sc]).run Tryz.prog w = .ok (goInt 1) (w.setCell ⟨b, q, none⟩ (.int .u64 v)) :=
  run_copy_cells w 76 76 ty 89 b q 1 dc ⟨a, 0, none⟩ 1 sc [.int .u64 v] Tryz.underlying76 cells_word rfl
    (fun j u h => by
      rcases j with _ | j
      · simp at h; subst h; exact hs
      · simp at h)
    (fun j h => by obtain rfl : j = 0 := by simpa using h
                   exact hc) (fun j h => by obtain rfl : j = 0 := by simpa using h
                                            exact hf) (by simp [Value.oneCell'])
theorem clear_none (ty : TypeId) (ad : Option Addr) (c : Nat) (w : World) : (Builtin.clear_ #[76] ty #[.slice ad 0 c]).run Tryz.prog w = .ok (.tuple #[]) w := by
  cases ad <;> simp [Builtin.clear_, run_underlying Tryz.underlying76]
theorem clear_some (ty : TypeId) (b n c : Nat) (w : World) (hn : 0 < n) (hc : ∀ j, j < n → (w.cell? ⟨b, 0 + j, none⟩).isSome = true) (hf : ∀ j, j < n → w.frozen? ⟨b, 0 + j, none⟩ = false) :
    (Builtin.clear_ #[76] ty #[.slice (some ⟨b, 0, none⟩) n c]).run Tryz.prog w = .ok (.tuple #[]) (w.setCells b 0 (List.replicate n (.int .u64 0))) :=
  Lib.run_clear_slice w 76 89 ty (.int .u64 0) Tryz.underlying76 zero_word rfl rfl b 0 n c hn hc hf

set_option maxHeartbeats 1000000 in
theorem lsh_01 (a : Nat) (s : Int) (hs : 1 ≤ s) (hs1 : s ≤ 128) (eq : s / 64 = 0) (r : Int) (er : s % 64 = r) (r0 : 1 ≤ r) (r1 : r ≤ 63) (e1 : bits BinOp.and IntKind.u64 r 63 = r) (e2 : bits BinOp.and IntKind.u64 (64 - r) 63 = 64 - r) (T : Int) (eT : IntKind.u64.wrap (2 ^ r.toNat) = T) (e0 : (1 : Int) / 2 ^ (64 - r).toNat = 0) (T0 : (T == 0) = false) (w : World) (cx : w.cell? ⟨a, 0, none⟩ = some (.int .u64 1)) (ha : a < w.heap.size) :
    Calls Tryz.prog 61 #[.slice (some ⟨a, 0, none⟩) 1 1, .slice (some ⟨a, 0, none⟩) 1 1, .int .u64 s] w fun e w' =>
      e = .returned (.slice (some ⟨w.heap.size, 0, none⟩) 1 6) ∧ w.alloc (.cells #[.int .u64 T, .int .u64 0, .int .u64 0, .int .u64 0, .int .u64 0, .int .u64 0] 89) = w' := by
  have hcl := clear_none
  have hcells : ∀ j, j < 2 → (w.alloc (.cells #[.int .u64 T, .int .u64 0, .int .u64 0, .int .u64 0, .int .u64 0, .int .u64 0] 89)).cell? ⟨w.heap.size, j, none⟩ = some (.int .u64 (if j = 0 then T else 0)) := fun j hj => by
    rw [World.cell?_alloc_at _ _ _ _ rfl]
    have : j = 0 ∨ j = 1 := by omega
    rcases this with rfl | rfl <;> rfl
  have htop : ((if 0 + 1 - 1 = 0 then T else 0 : Int) == 0) = false := T0
  have HC := Lib.hid hcells
  have HT := Lib.hid htop
  clear hcells htop
  go_enter Tryz.func61, Tryz.ntmps61
  go_wp2_with (first | (go_at_call 72; refine (make_two _ _).mono ?_; rintro e w' ⟨rfl, rfl⟩) | (go_at_call 77; refine (lshVU_one _ _ _ _ _ r r0 r1 e1 e2 T eT e0 _ ?_ ?_ (.int .u64 0) ?_).mono ?_; (rw [World.cell?_alloc_past _ _ _ ha]; exact cx); (exact World.frozen?_alloc_at _ _ _ _ rfl); (rw [World.cell?_alloc_at _ _ _ _ rfl]; rfl); rintro e w' ⟨rfl, rfl⟩) | (go_at_call 78; refine (norm_any w.heap.size 6 2 1 (fun j => if j = 0 then T else 0) _ ?_ (by omega) (by omega) (by omega) ?_ ?_).mono ?_; (exact HC.out); (intro j h1 h2; exact if_neg (by omega)); (intro _; exact HT.out); rintro e w' ⟨rfl, rfl⟩))
  go_ret
  exact ⟨rfl, rfl⟩

set_option maxHeartbeats 1000000 in
theorem lsh_10 (a : Nat) (s : Int) (hs : 1 ≤ s) (hs1 : s ≤ 128) (eq : s / 64 = 1) (er : s % 64 = 0) (w : World) (cx : w.cell? ⟨a, 0, none⟩ = some (.int .u64 1)) (ha : a < w.heap.size) :
    Calls Tryz.prog 61 #[.slice (some ⟨a, 0, none⟩) 1 1, .slice (some ⟨a, 0, none⟩) 1 1, .int .u64 s] w fun e w' =>
      e = .returned (.slice (some ⟨w.heap.size, 0, none⟩) 2 7) ∧ w.alloc (.cells #[.int .u64 0, .int .u64 1, .int .u64 0, .int .u64 0, .int .u64 0, .int .u64 0, .int .u64 0] 89) = w' := by
  have hcl : ∀ ty c, (Builtin.clear_ #[76] ty #[.slice (some ⟨w.heap.size, 0, none⟩) 1 c]).run Tryz.prog (w.alloc (.cells #[.int .u64 0, .int .u64 1, .int .u64 0, .int .u64 0, .int .u64 0, .int .u64 0, .int .u64 0] 89)) = .ok (.tuple #[]) (w.alloc (.cells #[.int .u64 0, .int .u64 1, .int .u64 0, .int .u64 0, .int .u64 0, .int .u64 0, .int .u64 0] 89)) := by
    intro ty c
    have h1 : ∀ j, j < 1 → ((w.alloc (.cells #[.int .u64 0, .int .u64 1, .int .u64 0, .int .u64 0, .int .u64 0, .int .u64 0, .int .u64 0] 89)).cell? ⟨w.heap.size, 0 + j, none⟩).isSome = true := by
      intro j hj
      rw [World.cell?_alloc_at _ _ _ _ rfl]
      have : j = 0 := by omega
      rcases this with rfl <;> rfl
    rw [clear_some ty w.heap.size 1 c _ (by omega) h1 (fun j hj => World.frozen?_alloc_at _ _ _ _ rfl)]
    simp [World.setCells, List.replicate, World.setCell_alloc_at _ _ _ _ _ rfl]
  have hcp : ∀ ty c, (Builtin.copy_ #[76, 76] ty #[.slice (some ⟨w.heap.size, 1, none⟩) 1 c, .slice (some ⟨a, 0, none⟩) 1 1]).run Tryz.prog (w.alloc (.cells #[.int .u64 0, .int .u64 0, .int .u64 0, .int .u64 0, .int .u64 0, .int .u64 0, .int .u64 0] 89)) = .ok (goInt 1) (w.alloc (.cells #[.int .u64 0, .int .u64 1, .int .u64 0, .int .u64 0, .int .u64 0, .int .u64 0, .int .u64 0] 89)) := fun ty c => by
    rw [copy_one ty w.heap.size 1 c a 1 1 _ (by rw [World.cell?_alloc_past _ _ _ ha]; exact cx) (by rw [World.cell?_alloc_at _ _ _ _ rfl]; rfl) (World.frozen?_alloc_at _ _ _ _ rfl), World.setCell_alloc_at _ _ _ _ _ rfl]
    rfl
  have hcells : ∀ j, j < 3 → (w.alloc (.cells #[.int .u64 0, .int .u64 1, .int .u64 0, .int .u64 0, .int .u64 0, .int .u64 0, .int .u64 0] 89)).cell? ⟨w.heap.size, j, none⟩ = some (.int .u64 (if j = 1 then 1 else 0)) := fun j hj => by
    rw [World.cell?_alloc_at _ _ _ _ rfl]
    have : j = 0 ∨ j = 1 ∨ j = 2 := by omega
    rcases this with rfl | rfl | rfl <;> rfl
  have htop : ((if 1 + 1 - 1 = 1 then 1 else 0 : Int) == 0) = false := rfl
  have HC := Lib.hid hcells
  have HT := Lib.hid htop
  clear hcells htop
  go_enter Tryz.func61, Tryz.ntmps61
  go_wp2_with (first | (go_at_call 72; refine (make_three _ _).mono ?_; rintro e w' ⟨rfl, rfl⟩) | (go_at_call 78; refine (norm_any w.heap.size 7 3 2 (fun j => if j = 1 then 1 else 0) _ ?_ (by omega) (by omega) (by omega) ?_ ?_).mono ?_; (exact HC.out); (intro j h1 h2; exact if_neg (by omega)); (intro _; exact HT.out); rintro e w' ⟨rfl, rfl⟩))
  go_ret
  exact ⟨rfl, rfl⟩

set_option maxHeartbeats 1000000 in
theorem lsh_11 (a : Nat) (s : Int) (hs : 1 ≤ s) (hs1 : s ≤ 128) (eq : s / 64 = 1) (r : Int) (er : s % 64 = r) (r0 : 1 ≤ r) (r1 : r ≤ 63) (e1 : bits BinOp.and IntKind.u64 r 63 = r) (e2 : bits BinOp.and IntKind.u64 (64 - r) 63 = 64 - r) (T : Int) (eT : IntKind.u64.wrap (2 ^ r.toNat) = T) (e0 : (1 : Int) / 2 ^ (64 - r).toNat = 0) (T0 : (T == 0) = false) (w : World) (cx : w.cell? ⟨a, 0, none⟩ = some (.int .u64 1)) (ha : a < w.heap.size) :
    Calls Tryz.prog 61 #[.slice (some ⟨a, 0, none⟩) 1 1, .slice (some ⟨a, 0, none⟩) 1 1, .int .u64 s] w fun e w' =>
      e = .returned (.slice (some ⟨w.heap.size, 0, none⟩) 2 7) ∧ w.alloc (.cells #[.int .u64 0, .int .u64 T, .int .u64 0, .int .u64 0, .int .u64 0, .int .u64 0, .int .u64 0] 89) = w' := by
  have hcl : ∀ ty c, (Builtin.clear_ #[76] ty #[.slice (some ⟨w.heap.size, 0, none⟩) 1 c]).run Tryz.prog (w.alloc (.cells #[.int .u64 0, .int .u64 T, .int .u64 0, .int .u64 0, .int .u64 0, .int .u64 0, .int .u64 0] 89)) = .ok (.tuple #[]) (w.alloc (.cells #[.int .u64 0, .int .u64 T, .int .u64 0, .int .u64 0, .int .u64 0, .int .u64 0, .int .u64 0] 89)) := by
    intro ty c
    have h1 : ∀ j, j < 1 → ((w.alloc (.cells #[.int .u64 0, .int .u64 T, .int .u64 0, .int .u64 0, .int .u64 0, .int .u64 0, .int .u64 0] 89)).cell? ⟨w.heap.size, 0 + j, none⟩).isSome = true := by
      intro j hj
      rw [World.cell?_alloc_at _ _ _ _ rfl]
      have : j = 0 := by omega
      rcases this with rfl <;> rfl
    rw [clear_some ty w.heap.size 1 c _ (by omega) h1 (fun j hj => World.frozen?_alloc_at _ _ _ _ rfl)]
    simp [World.setCells, List.replicate, World.setCell_alloc_at _ _ _ _ _ rfl]
  have hcells : ∀ j, j < 3 → (w.alloc (.cells #[.int .u64 0, .int .u64 T, .int .u64 0, .int .u64 0, .int .u64 0, .int .u64 0, .int .u64 0] 89)).cell? ⟨w.heap.size, j, none⟩ = some (.int .u64 (if j = 1 then T else 0)) := fun j hj => by
    rw [World.cell?_alloc_at _ _ _ _ rfl]
    have : j = 0 ∨ j = 1 ∨ j = 2 := by omega
    rcases this with rfl | rfl | rfl <;> rfl
  have htop : ((if 1 + 1 - 1 = 1 then T else 0 : Int) == 0) = false := T0
  have HC := Lib.hid hcells
  have HT := Lib.hid htop
  clear hcells htop
  go_enter Tryz.func61, Tryz.ntmps61
  go_wp2_with (first | (go_at_call 72; refine (make_three _ _).mono ?_; rintro e w' ⟨rfl, rfl⟩) | (go_at_call 77; refine (lshVU_one _ _ _ _ _ r r0 r1 e1 e2 T eT e0 _ ?_ ?_ (.int .u64 0) ?_).mono ?_; (rw [World.cell?_alloc_past _ _ _ ha]; exact cx); (exact World.frozen?_alloc_at _ _ _ _ rfl); (rw [World.cell?_alloc_at _ _ _ _ rfl]; rfl); rintro e w' ⟨rfl, rfl⟩) | (go_at_call 78; refine (norm_any w.heap.size 7 3 2 (fun j => if j = 1 then T else 0) _ ?_ (by omega) (by omega) (by omega) ?_ ?_).mono ?_; (exact HC.out); (intro j h1 h2; exact if_neg (by omega)); (intro _; exact HT.out); rintro e w' ⟨rfl, rfl⟩))
  go_ret
  exact ⟨rfl, rfl⟩

set_option maxHeartbeats 1000000 in
theorem lsh_20 (a : Nat) (s : Int) (hs : 1 ≤ s) (hs1 : s ≤ 128) (eq : s / 64 = 2) (er : s % 64 = 0) (w : World) (cx : w.cell? ⟨a, 0, none⟩ = some (.int .u64 1)) (ha : a < w.heap.size) :
    Calls Tryz.prog 61 #[.slice (some ⟨a, 0, none⟩) 1 1, .slice (some ⟨a, 0, none⟩) 1 1, .int .u64 s] w fun e w' =>
      e = .returned (.slice (some ⟨w.heap.size, 0, none⟩) 3 8) ∧ w.alloc (.cells #[.int .u64 0, .int .u64 0, .int .u64 1, .int .u64 0, .int .u64 0, .int .u64 0, .int .u64 0, .int .u64 0] 89) = w' := by
  have hcl : ∀ ty c, (Builtin.clear_ #[76] ty #[.slice (some ⟨w.heap.size, 0, none⟩) 2 c]).run Tryz.prog (w.alloc (.cells #[.int .u64 0, .int .u64 0, .int .u64 1, .int .u64 0, .int .u64 0, .int .u64 0, .int .u64 0, .int .u64 0] 89)) = .ok (.tuple #[]) (w.alloc (.cells #[.int .u64 0, .int .u64 0, .int .u64 1, .int .u64 0, .int .u64 0, .int .u64 0, .int .u64 0, .int .u64 0] 89)) := by
    intro ty c
    have h1 : ∀ j, j < 2 → ((w.alloc (.cells #[.int .u64 0, .int .u64 0, .int .u64 1, .int .u64 0, .int .u64 0, .int .u64 0, .int .u64 0, .int .u64 0] 89)).cell? ⟨w.heap.size, 0 + j, none⟩).isSome = true := by
      intro j hj
      rw [World.cell?_alloc_at _ _ _ _ rfl]
      have : j = 0 ∨ j = 1 := by omega
      rcases this with rfl | rfl <;> rfl
    rw [clear_some ty w.heap.size 2 c _ (by omega) h1 (fun j hj => World.frozen?_alloc_at _ _ _ _ rfl)]
    simp [World.setCells, List.replicate, World.setCell_alloc_at _ _ _ _ _ rfl]
  have hcp : ∀ ty c, (Builtin.copy_ #[76, 76] ty #[.slice (some ⟨w.heap.size, 2, none⟩) 1 c, .slice (some ⟨a, 0, none⟩) 1 1]).run Tryz.prog (w.alloc (.cells #[.int .u64 0, .int .u64 0, .int .u64 0, .int .u64 0, .int .u64 0, .int .u64 0, .int .u64 0, .int .u64 0] 89)) = .ok (goInt 1) (w.alloc (.cells #[.int .u64 0, .int .u64 0, .int .u64 1, .int .u64 0, .int .u64 0, .int .u64 0, .int .u64 0, .int .u64 0] 89)) := fun ty c => by
    rw [copy_one ty w.heap.size 2 c a 1 1 _ (by rw [World.cell?_alloc_past _ _ _ ha]; exact cx) (by rw [World.cell?_alloc_at _ _ _ _ rfl]; rfl) (World.frozen?_alloc_at _ _ _ _ rfl), World.setCell_alloc_at _ _ _ _ _ rfl]
    rfl
  have hcells : ∀ j, j < 4 → (w.alloc (.cells #[.int .u64 0, .int .u64 0, .int .u64 1, .int .u64 0, .int .u64 0, .int .u64 0, .int .u64 0, .int .u64 0] 89)).cell? ⟨w.heap.size, j, none⟩ = some (.int .u64 (if j = 2 then 1 else 0)) := fun j hj => by
    rw [World.cell?_alloc_at _ _ _ _ rfl]
    have : j = 0 ∨ j = 1 ∨ j = 2 ∨ j = 3 := by omega
    rcases this with rfl | rfl | rfl | rfl <;> rfl
  have htop : ((if 2 + 1 - 1 = 2 then 1 else 0 : Int) == 0) = false := rfl
  have HC := Lib.hid hcells
  have HT := Lib.hid htop
  clear hcells htop
  go_enter Tryz.func61, Tryz.ntmps61
  go_wp2_with (first | (go_at_call 72; refine (make_four _ _).mono ?_; rintro e w' ⟨rfl, rfl⟩) | (go_at_call 78; refine (norm_any w.heap.size 8 4 3 (fun j => if j = 2 then 1 else 0) _ ?_ (by omega) (by omega) (by omega) ?_ ?_).mono ?_; (exact HC.out); (intro j h1 h2; exact if_neg (by omega)); (intro _; exact HT.out); rintro e w' ⟨rfl, rfl⟩))
  go_ret
  exact ⟨rfl, rfl⟩
end Go.Proofs.YtjejffijhlppmaaGreatDoor
