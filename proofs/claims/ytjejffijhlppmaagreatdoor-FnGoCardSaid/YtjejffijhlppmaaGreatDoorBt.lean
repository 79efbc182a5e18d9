/-
  Int.SetUint64, SetInt64, NewInt, BitLen on the heap's book-keeping.
-/
import Derived.Test.YtjejffijhlppmaaGreatDoorBp
namespace Go.Proofs.YtjejffijhlppmaaGreatDoor
open Go.Dv Go.RowKit
set_option linter.unusedVariables false
/-- block c is the Int C, block cw its word d -/
structure MC (B : Nat) (w0 w : World) (c cw : Nat) (d : Int) : Prop where
  below : Below B w0 w
  hB : B ≤ w0.heap.size
  Bc : B ≤ c
  Bcw : B ≤ cw
  hc : w.heap[c]? = some (.cells #[.bool false, .slice (some ⟨cw, 0, none⟩) 1 1] 78 (0, 0))
  hcw : w.heap[cw]? = some (.cells #[.int .u64 d] 89 (0, 0))
variable {B : Nat} {w0 w : World} {c cw p a : Nat} {d : Int} {n cap : Nat} {cells : Array Value}
theorem MC.size (h : MC B w0 w c cw d) : B ≤ w.heap.size := Nat.le_trans h.hB h.below.size

theorem mc_of (hb : Below B w0 w) (hB : B ≤ w0.heap.size) (Bc : B ≤ c) (hP : w.heap[c]? = some (.cells #[.bool false, .slice none 0 0] 78 (0, 0))) :
    MC B w0 (((w.setCell ⟨c, 1, none⟩ (.slice (some ⟨w.heap.size, 0, none⟩) 1 1)).setCell ⟨c, 0, none⟩ (.bool false)).alloc (.cells #[.int .u64 d] 89)) c w.heap.size d := by
  have hs : ((w.setCell ⟨c, 1, none⟩ (.slice (some ⟨w.heap.size, 0, none⟩) 1 1)).setCell ⟨c, 0, none⟩ (.bool false)).heap.size = w.heap.size := by simp [World.setCell]
  have hsz := Nat.le_trans hB hb.size
  have hb1 := hb.setCell (p := ⟨c, 1, none⟩) Bc (.slice (some ⟨w.heap.size, 0, none⟩) 1 1)
  have hb2 := hb1.setCell (p := ⟨c, 0, none⟩) Bc (.bool false)
  refine { below := hb2.alloc (by rw [hs]; exact hsz) _, hB := hB, Bc := Bc, Bcw := hsz, hc := heap_alloc_of (blk_set (blk_set hP 1 _) 0 _), hcw := ?_ }
  have := heap_alloc_new ((w.setCell ⟨c, 1, none⟩ (.slice (some ⟨w.heap.size, 0, none⟩) 1 1)).setCell ⟨c, 0, none⟩ (.bool false)) (.cells #[.int .u64 d] 89)
  rw [hs] at this
  exact this
theorem setUint64M (hb : Below B w0 w) (hB : B ≤ w0.heap.size) (Bc : B ≤ c) (hP : w.heap[c]? = some (.cells #[.bool false, .slice none 0 0] 78 (0, 0))) (d0 : 0 < d) (d1 : d < 18446744073709551616) :
    Calls Tryz.prog 47 #[.pointer (some ⟨c, 0, none⟩), .int .u64 d] w fun e w' => e = .returned (.pointer (some ⟨c, 0, none⟩)) ∧ ∃ cw, MC B w0 w' c cw d :=
  (setUint64_any c d d0 d1 w hP).mono fun e w' hh => by
    obtain ⟨rfl, rfl⟩ := hh
    exact ⟨rfl, _, mc_of hb hB Bc hP⟩
theorem setInt64M (hb : Below B w0 w) (hB : B ≤ w0.heap.size) (Bc : B ≤ c) (hP : w.heap[c]? = some (.cells #[.bool false, .slice none 0 0] 78 (0, 0))) (d0 : 0 < d) (d1 : d < 9223372036854775808) :
    Calls Tryz.prog 58 #[.pointer (some ⟨c, 0, none⟩), .int .i64 d] w fun e w' => e = .returned (.pointer (some ⟨c, 0, none⟩)) ∧ ∃ cw, MC B w0 w' c cw d :=
  (setInt64_any c d d0 d1 w hP).mono fun e w' hh => by
    obtain ⟨rfl, rfl⟩ := hh
    exact ⟨rfl, _, mc_of hb hB Bc hP⟩
theorem bitLenM (h : MC B w0 w c cw d) (d0 : 0 < d) (d1 : d < 18446744073709551616) :
    Calls Tryz.prog 48 #[.pointer (some ⟨c, 0, none⟩)] w fun e w' => e = .returned (.int .i64 (blen d)) ∧ w = w' :=
  bitLen_one c cw d d0 d1 w (blk_cell h.hc 1 rfl) (blk_cell h.hcw 0 rfl)
theorem newIntC (h : MC B w0 w c cw d) :
    Calls Tryz.prog 49 #[.int .i64 1] w fun e w' => ∃ p a, e = .returned (.pointer (some ⟨p, 0, none⟩)) ∧ MS B w0 w' c cw p a d 1 1 #[.int .u64 1] :=
  (newInt_one w).mono fun e w' hh => by
    obtain ⟨rfl, rfl⟩ := hh
    have lc := blk_lt h.hc
    have lcw := blk_lt h.hcw
    have hs := h.size
    have h1 : (w.alloc (.cells #[.int .u64 1] 89)).heap.size = w.heap.size + 1 := Array.size_push _
    have hb1 := h.below.alloc hs (.cells #[.int .u64 1] 89)
    have hn := heap_alloc_new (w.alloc (.cells #[.int .u64 1] 89)) (.cells #[.bool false, .slice (some ⟨w.heap.size, 0, none⟩) 1 1] 78)
    rw [h1] at hn
    exact ⟨w.heap.size + 1, w.heap.size, rfl, { below := hb1.alloc (by omega) _, hB := h.hB, Bc := h.Bc, Bcw := h.Bcw, Bp := by omega, Ba := hs, hc := heap_alloc_of (heap_alloc_of h.hc), hcw := heap_alloc_of (heap_alloc_of h.hcw), hp := hn, ha := heap_alloc_of (heap_alloc_new _ _), cp := by omega, cwp := by omega, ca := by omega, cwa := by omega, pa := by omega }⟩
theorem newIntM (h : MS B w0 w c cw p a d n cap cells) :
    Calls Tryz.prog 49 #[.int .i64 1] w fun e w' => ∃ q yb, e = .returned (.pointer (some ⟨q, 0, none⟩)) ∧ MS B w0 w' c cw p a d n cap cells ∧
      w'.heap[q]? = some (.cells #[.bool false, .slice (some ⟨yb, 0, none⟩) 1 1] 78 (0, 0)) ∧ w'.heap[yb]? = some (.cells #[.int .u64 1] 89 (0, 0)) ∧ a ≠ yb :=
  (newInt_one w).mono fun e w' hh => by
    obtain ⟨rfl, rfl⟩ := hh
    have la := blk_lt h.ha
    have h1 : (w.alloc (.cells #[.int .u64 1] 89)).heap.size = w.heap.size + 1 := Array.size_push _
    have hn := heap_alloc_new (w.alloc (.cells #[.int .u64 1] 89)) (.cells #[.bool false, .slice (some ⟨w.heap.size, 0, none⟩) 1 1] 78)
    rw [h1] at hn
    exact ⟨w.heap.size + 1, w.heap.size, rfl, (h.alloc _).alloc _, hn, heap_alloc_of (heap_alloc_new _ _), by omega⟩
end Go.Proofs.YtjejffijhlppmaaGreatDoor
