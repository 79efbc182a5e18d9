/-
  The contracts of Int.Div by one word, in place, on the heap's book-keeping.
-/
import Derived.Test.YtjejffijhlppmaaGreatDoorBn
import Derived.Test.YtjejffijhlppmaaGreatDoorBo
import Derived.Test.YtjejffijhlppmaaGreatDoorBp
import Derived.Test.YtjejffijhlppmaaGreatDoorBm
namespace Go.Proofs.YtjejffijhlppmaaGreatDoor
open Go.Dv Go.RowKit
set_option linter.unusedVariables false
variable {B : Nat} {w0 w : World} {c cw p a : Nat} {d : Int} {n cap : Nat} {cells : Array Value}
/-- the Int of what is left, new -/
def R0 : Obj := .cells #[.bool false, .slice none 0 0] 78

set_option maxRecDepth 100000 in
set_option maxHeartbeats 4000000 in
theorem intDiv_0 (h : MS B w0 w c cw p a d n cap cells) (i : Nat) (hi : 0 < i) (cells' : Array Value) (W1 : World)
    (hW : MS B w0 W1 c cw p a d n cap cells') (hrb : W1.heap[w.heap.size]? = some (.cells #[.bool false, .slice none 0 0] 78 (0, 0)))
    (hD : ∀ m, Calls Tryz.prog 83 #[.slice (some ⟨a, 0, none⟩) n cap, .pointer none, .slice none 0 0, .slice (some ⟨a, 0, none⟩) n cap, .slice (some ⟨cw, 0, none⟩) 1 1] ((w.alloc R0).drewN m) fun e w' =>
        e = .returned (.tuple #[.slice (some ⟨a, 0, none⟩) i cap, .slice none 0 0]) ∧ ∃ k, W1.drewN k = w') :
    Calls Tryz.prog 53 #[.pointer (some ⟨p, 0, none⟩), .pointer (some ⟨p, 0, none⟩), .pointer (some ⟨c, 0, none⟩)] w fun e w' =>
      e = .returned (.pointer (some ⟨p, 0, none⟩)) ∧ MS B w0 w' c cw p a d i cap cells' := by
  have lp := blk_lt h.hp
  have lc := blk_lt h.hc
  have la := blk_lt h.ha
  have lcw := blk_lt h.hcw
  have c0 := blk_cell h.hc 0 rfl
  have hv := h.alloc R0
  have HQ := Lib.hid (quoRem_0 p c w.heap.size a i n cap cw hi (w.alloc R0) W1 hD (blk_cell hv.hp 1 rfl) (blk_cell hv.hc 1 rfl) (blk_cell (heap_alloc_new w R0) 1 rfl)
    (blk_cell hW.hp 0 rfl) (blk_cell hW.hp 1 rfl) (blk_cell hW.hc 0 rfl) (blk_cell hW.hc 1 rfl) (blk_cell hrb 0 rfl) (blk_cell hrb 1 rfl)
    (blk_frozen hW.hp 0) (blk_frozen hW.hp 1) (blk_frozen hrb 0) (blk_frozen hrb 1) (by omega) (Ne.symm h.cp) (by omega))
  have HW := Lib.hid hW
  have g0 := blk_cell (blk_set (blk_other (blk_set (blk_other hrb (by omega : w.heap.size ≠ p) 1 (.slice (some ⟨a, 0, none⟩) i cap)) 1 (.slice none 0 0)) (by omega : w.heap.size ≠ p) 0 (.bool false)) 0 (.bool false)) 0 (v := .bool false) rfl
  have hs := h.size
  clear hW hv hD hrb
  go_enter Tryz.func53, Tryz.ntmps53
  go_wp2_with (first | (go_at_call 65; refine HQ.out.mono ?_; rintro e w' ⟨rfl, k, rfl⟩))
  go_ret
  refine ⟨rfl, ?_⟩
  exact ((((HW.out.hdr i cap).other _ _ _ (by omega) (by omega) (by omega) (by omega) (by omega)).neg).other _ _ _ (by omega) (by omega) (by omega) (by omega) (by omega)).drewN _

set_option maxRecDepth 100000 in
set_option maxHeartbeats 4000000 in
theorem intDiv_1 (h : MS B w0 w c cw p a d n cap cells) (i nb : Nat) (hi : 0 < i) (cells' : Array Value) (W1 : World)
    (hW : MS B w0 W1 c cw p a d n cap cells') (hrb : W1.heap[w.heap.size]? = some (.cells #[.bool false, .slice none 0 0] 78 (0, 0)))
    (hD : ∀ m, Calls Tryz.prog 83 #[.slice (some ⟨a, 0, none⟩) n cap, .pointer none, .slice none 0 0, .slice (some ⟨a, 0, none⟩) n cap, .slice (some ⟨cw, 0, none⟩) 1 1] ((w.alloc R0).drewN m) fun e w' =>
        e = .returned (.tuple #[.slice (some ⟨a, 0, none⟩) i cap, .slice (some ⟨nb, 0, none⟩) 1 1]) ∧ ∃ k, W1.drewN k = w') :
    Calls Tryz.prog 53 #[.pointer (some ⟨p, 0, none⟩), .pointer (some ⟨p, 0, none⟩), .pointer (some ⟨c, 0, none⟩)] w fun e w' =>
      e = .returned (.pointer (some ⟨p, 0, none⟩)) ∧ MS B w0 w' c cw p a d i cap cells' := by
  have lp := blk_lt h.hp
  have lc := blk_lt h.hc
  have la := blk_lt h.ha
  have lcw := blk_lt h.hcw
  have c0 := blk_cell h.hc 0 rfl
  have hv := h.alloc R0
  have HQ := Lib.hid (quoRem_1 p c w.heap.size a i n cap cw nb hi (w.alloc R0) W1 hD (blk_cell hv.hp 1 rfl) (blk_cell hv.hc 1 rfl) (blk_cell (heap_alloc_new w R0) 1 rfl)
    (blk_cell hW.hp 0 rfl) (blk_cell hW.hp 1 rfl) (blk_cell hW.hc 0 rfl) (blk_cell hW.hc 1 rfl) (blk_cell hrb 0 rfl) (blk_cell hrb 1 rfl)
    (blk_frozen hW.hp 0) (blk_frozen hW.hp 1) (blk_frozen hrb 0) (blk_frozen hrb 1) (by omega) (Ne.symm h.cp) (by omega))
  have HW := Lib.hid hW
  have g0 := blk_cell (blk_set (blk_other (blk_set (blk_other hrb (by omega : w.heap.size ≠ p) 1 (.slice (some ⟨a, 0, none⟩) i cap)) 1 (.slice (some ⟨nb, 0, none⟩) 1 1)) (by omega : w.heap.size ≠ p) 0 (.bool false)) 0 (.bool false)) 0 (v := .bool false) rfl
  have hs := h.size
  clear hW hv hD hrb
  go_enter Tryz.func53, Tryz.ntmps53
  go_wp2_with (first | (go_at_call 65; refine HQ.out.mono ?_; rintro e w' ⟨rfl, k, rfl⟩))
  go_ret
  refine ⟨rfl, ?_⟩
  exact ((((HW.out.hdr i cap).other _ _ _ (by omega) (by omega) (by omega) (by omega) (by omega)).neg).other _ _ _ (by omega) (by omega) (by omega) (by omega) (by omega)).drewN _

set_option maxHeartbeats 1000000 in
theorem intDivW_1 (i : Nat) (x0 y1 y2 y3 y4 y5 q0 r0 : Int) (h : MS B w0 w c cw p a d 1 6 #[.int .u64 x0, .int .u64 y1, .int .u64 y2, .int .u64 y3, .int .u64 y4, .int .u64 y5]) (x00 : 0 ≤ x0) (x01 : x0 < 18446744073709551616) (hd0 : 1 < d) (hd : d < 18446744073709551616) (hq0 : x0 / d = q0) (hr0 : x0 % d = r0) (hi : i ≤ 1) (hi0 : 0 < i) (hz : ∀ j, i ≤ j → j < 1 → (dg q0 0 0) j = 0) (hnz : ((dg q0 0 0) (i - 1) == 0) = false) :
    Calls Tryz.prog 53 #[.pointer (some ⟨p, 0, none⟩), .pointer (some ⟨p, 0, none⟩), .pointer (some ⟨c, 0, none⟩)] w fun e w' =>
      e = .returned (.pointer (some ⟨p, 0, none⟩)) ∧ MS B w0 w' c cw p a d i 6 #[.int .u64 q0, .int .u64 y1, .int .u64 y2, .int .u64 y3, .int .u64 y4, .int .u64 y5] := by
  have la := blk_lt h.ha
  have hv := h.alloc R0
  have hW := (hv.word 0 (.int .u64 q0))
  have hrb := (blk_other (heap_alloc_new w R0) (by omega : w.heap.size ≠ a) 0 (.int .u64 q0))
  by_cases h0 : r0 = 0
  · subst h0
    exact intDiv_0 h i hi0 _ ((w.alloc R0).setCell ⟨a, 0, none⟩ (.int .u64 q0)) hW hrb (fun m => (natDiv_10 cw 1 a i x0 y1 y2 y3 y4 y5 d q0 0 x00 x01 hd0 hd hq0 hr0 hi hz (fun _ => hnz) ((w.alloc R0).drewN m) hv.ha (blk_cell hv.hcw 0 rfl) (Nat.le_refl 1) rfl).mono fun e w' hh => by
      obtain ⟨rfl, k, rfl⟩ := hh
      exact ⟨rfl, m + k, by simp only [setCell_drewN, World.drewN_drewN]⟩)
  · have h1 : (r0 == 0) = false := by simp [h0]
    exact intDiv_1 h i (w.alloc R0).heap.size hi0 _ (((w.alloc R0).setCell ⟨a, 0, none⟩ (.int .u64 q0)).alloc (.cells #[.int .u64 r0] 89)) (hW.alloc _) (heap_alloc_of hrb) (fun m => (natDiv_11 cw 1 a i x0 y1 y2 y3 y4 y5 d q0 r0 x00 x01 hd0 hd hq0 hr0 hi hz (fun _ => hnz) ((w.alloc R0).drewN m) hv.ha (blk_cell hv.hcw 0 rfl) (Nat.le_refl 1) h1).mono fun e w' hh => by
      obtain ⟨rfl, k, rfl⟩ := hh
      exact ⟨rfl, m + k, by simp only [setCell_drewN, alloc_drewN, World.drewN_drewN]⟩)

set_option maxHeartbeats 1000000 in
theorem intDivW_2 (i : Nat) (x0 x1 y2 y3 y4 y5 y6 q1 r1 q0 r0 : Int) (h : MS B w0 w c cw p a d 2 7 #[.int .u64 x0, .int .u64 x1, .int .u64 y2, .int .u64 y3, .int .u64 y4, .int .u64 y5, .int .u64 y6]) (x00 : 0 ≤ x0) (x01 : x0 < 18446744073709551616) (x10 : 0 ≤ x1) (x11 : x1 < 18446744073709551616) (hd0 : 1 < d) (hd : d < 18446744073709551616) (hq1 : x1 / d = q1) (hr1 : x1 % d = r1) (hq0 : (r1 * 18446744073709551616 + x0) / d = q0) (hr0 : (r1 * 18446744073709551616 + x0) % d = r0) (hi : i ≤ 2) (hi0 : 0 < i) (hz : ∀ j, i ≤ j → j < 2 → (dg q0 q1 0) j = 0) (hnz : ((dg q0 q1 0) (i - 1) == 0) = false) :
    Calls Tryz.prog 53 #[.pointer (some ⟨p, 0, none⟩), .pointer (some ⟨p, 0, none⟩), .pointer (some ⟨c, 0, none⟩)] w fun e w' =>
      e = .returned (.pointer (some ⟨p, 0, none⟩)) ∧ MS B w0 w' c cw p a d i 7 #[.int .u64 q0, .int .u64 q1, .int .u64 y2, .int .u64 y3, .int .u64 y4, .int .u64 y5, .int .u64 y6] := by
  have la := blk_lt h.ha
  have hv := h.alloc R0
  have hW := ((hv.word 1 (.int .u64 q1)).word 0 (.int .u64 q0))
  have hrb := (blk_other (blk_other (heap_alloc_new w R0) (by omega : w.heap.size ≠ a) 1 (.int .u64 q1)) (by omega : w.heap.size ≠ a) 0 (.int .u64 q0))
  by_cases h0 : r0 = 0
  · subst h0
    exact intDiv_0 h i hi0 _ (((w.alloc R0).setCell ⟨a, 1, none⟩ (.int .u64 q1)).setCell ⟨a, 0, none⟩ (.int .u64 q0)) hW hrb (fun m => (natDiv_20 cw 1 a i x0 x1 y2 y3 y4 y5 y6 d q1 r1 q0 0 x00 x01 x10 x11 hd0 hd hq1 hr1 hq0 hr0 hi hz (fun _ => hnz) ((w.alloc R0).drewN m) hv.ha (blk_cell hv.hcw 0 rfl) (Nat.le_refl 1) rfl).mono fun e w' hh => by
      obtain ⟨rfl, k, rfl⟩ := hh
      exact ⟨rfl, m + k, by simp only [setCell_drewN, World.drewN_drewN]⟩)
  · have h1 : (r0 == 0) = false := by simp [h0]
    exact intDiv_1 h i (w.alloc R0).heap.size hi0 _ ((((w.alloc R0).setCell ⟨a, 1, none⟩ (.int .u64 q1)).setCell ⟨a, 0, none⟩ (.int .u64 q0)).alloc (.cells #[.int .u64 r0] 89)) (hW.alloc _) (heap_alloc_of hrb) (fun m => (natDiv_21 cw 1 a i x0 x1 y2 y3 y4 y5 y6 d q1 r1 q0 r0 x00 x01 x10 x11 hd0 hd hq1 hr1 hq0 hr0 hi hz (fun _ => hnz) ((w.alloc R0).drewN m) hv.ha (blk_cell hv.hcw 0 rfl) (Nat.le_refl 1) h1).mono fun e w' hh => by
      obtain ⟨rfl, k, rfl⟩ := hh
      exact ⟨rfl, m + k, by simp only [setCell_drewN, alloc_drewN, World.drewN_drewN]⟩)

set_option maxHeartbeats 1000000 in
theorem intDivW_3 (i : Nat) (x0 x1 x2 y3 y4 y5 y6 y7 q2 r2 q1 r1 q0 r0 : Int) (h : MS B w0 w c cw p a d 3 8 #[.int .u64 x0, .int .u64 x1, .int .u64 x2, .int .u64 y3, .int .u64 y4, .int .u64 y5, .int .u64 y6, .int .u64 y7]) (x00 : 0 ≤ x0) (x01 : x0 < 18446744073709551616) (x10 : 0 ≤ x1) (x11 : x1 < 18446744073709551616) (x20 : 0 ≤ x2) (x21 : x2 < 18446744073709551616) (hd0 : 1 < d) (hd : d < 18446744073709551616) (hq2 : x2 / d = q2) (hr2 : x2 % d = r2) (hq1 : (r2 * 18446744073709551616 + x1) / d = q1) (hr1 : (r2 * 18446744073709551616 + x1) % d = r1) (hq0 : (r1 * 18446744073709551616 + x0) / d = q0) (hr0 : (r1 * 18446744073709551616 + x0) % d = r0) (hi : i ≤ 3) (hi0 : 0 < i) (hz : ∀ j, i ≤ j → j < 3 → (dg q0 q1 q2) j = 0) (hnz : ((dg q0 q1 q2) (i - 1) == 0) = false) :
    Calls Tryz.prog 53 #[.pointer (some ⟨p, 0, none⟩), .pointer (some ⟨p, 0, none⟩), .pointer (some ⟨c, 0, none⟩)] w fun e w' =>
      e = .returned (.pointer (some ⟨p, 0, none⟩)) ∧ MS B w0 w' c cw p a d i 8 #[.int .u64 q0, .int .u64 q1, .int .u64 q2, .int .u64 y3, .int .u64 y4, .int .u64 y5, .int .u64 y6, .int .u64 y7] := by
  have la := blk_lt h.ha
  have hv := h.alloc R0
  have hW := (((hv.word 2 (.int .u64 q2)).word 1 (.int .u64 q1)).word 0 (.int .u64 q0))
  have hrb := (blk_other (blk_other (blk_other (heap_alloc_new w R0) (by omega : w.heap.size ≠ a) 2 (.int .u64 q2)) (by omega : w.heap.size ≠ a) 1 (.int .u64 q1)) (by omega : w.heap.size ≠ a) 0 (.int .u64 q0))
  by_cases h0 : r0 = 0
  · subst h0
    exact intDiv_0 h i hi0 _ ((((w.alloc R0).setCell ⟨a, 2, none⟩ (.int .u64 q2)).setCell ⟨a, 1, none⟩ (.int .u64 q1)).setCell ⟨a, 0, none⟩ (.int .u64 q0)) hW hrb (fun m => (natDiv_30 cw 1 a i x0 x1 x2 y3 y4 y5 y6 y7 d q2 r2 q1 r1 q0 0 x00 x01 x10 x11 x20 x21 hd0 hd hq2 hr2 hq1 hr1 hq0 hr0 hi hz (fun _ => hnz) ((w.alloc R0).drewN m) hv.ha (blk_cell hv.hcw 0 rfl) (Nat.le_refl 1) rfl).mono fun e w' hh => by
      obtain ⟨rfl, k, rfl⟩ := hh
      exact ⟨rfl, m + k, by simp only [setCell_drewN, World.drewN_drewN]⟩)
  · have h1 : (r0 == 0) = false := by simp [h0]
    exact intDiv_1 h i (w.alloc R0).heap.size hi0 _ (((((w.alloc R0).setCell ⟨a, 2, none⟩ (.int .u64 q2)).setCell ⟨a, 1, none⟩ (.int .u64 q1)).setCell ⟨a, 0, none⟩ (.int .u64 q0)).alloc (.cells #[.int .u64 r0] 89)) (hW.alloc _) (heap_alloc_of hrb) (fun m => (natDiv_31 cw 1 a i x0 x1 x2 y3 y4 y5 y6 y7 d q2 r2 q1 r1 q0 r0 x00 x01 x10 x11 x20 x21 hd0 hd hq2 hr2 hq1 hr1 hq0 hr0 hi hz (fun _ => hnz) ((w.alloc R0).drewN m) hv.ha (blk_cell hv.hcw 0 rfl) (Nat.le_refl 1) h1).mono fun e w' hh => by
      obtain ⟨rfl, k, rfl⟩ := hh
      exact ⟨rfl, m + k, by simp only [setCell_drewN, alloc_drewN, World.drewN_drewN]⟩)
end Go.Proofs.YtjejffijhlppmaaGreatDoor
