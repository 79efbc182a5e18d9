/-
  What the heap holds while the constants are made: C, a word, and M, a block of words; how a step keeps it.
-/
import Derived.Test.YtjejffijhlppmaaGreatDoorBf
namespace Go.Proofs.YtjejffijhlppmaaGreatDoor
open Go.Dv Go.RowKit
set_option linter.unusedVariables false

/-- block c is the Int C, block cw its word d, block p the Int M, block a its words -/
structure MS (B : Nat) (w0 w : World) (c cw p a : Nat) (d : Int) (n cap : Nat) (cells : Array Value) : Prop where
  below : Below B w0 w
  hB : B ≤ w0.heap.size
  Bc : B ≤ c
  Bcw : B ≤ cw
  Bp : B ≤ p
  Ba : B ≤ a
  hc : w.heap[c]? = some (.cells #[.bool false, .slice (some ⟨cw, 0, none⟩) 1 1] 78 (0, 0))
  hcw : w.heap[cw]? = some (.cells #[.int .u64 d] 89 (0, 0))
  hp : w.heap[p]? = some (.cells #[.bool false, .slice (some ⟨a, 0, none⟩) n cap] 78 (0, 0))
  ha : w.heap[a]? = some (.cells cells 89 (0, 0))
  cp : c ≠ p
  cwp : cw ≠ p
  ca : c ≠ a
  cwa : cw ≠ a
  pa : p ≠ a

theorem heap_alloc_of {w : World} {k : Nat} {o o' : Obj} (h : w.heap[k]? = some o) : (w.alloc o').heap[k]? = some o := by
  rw [Below.heap_alloc _ _ _ (blk_lt h)]; exact h
theorem heap_alloc_new (w : World) (o : Obj) : (w.alloc o).heap[w.heap.size]? = some o := by
  show (w.heap.push o)[w.heap.size]? = some o
  simp

variable {B : Nat} {w0 w : World} {c cw p a : Nat} {d : Int} {n cap : Nat} {cells : Array Value}
theorem MS.word (h : MS B w0 w c cw p a d n cap cells) (i : Nat) (v : Value) : MS B w0 (w.setCell ⟨a, i, none⟩ v) c cw p a d n cap (cells.setIfInBounds i v) :=
  { below := h.below.setCell h.Ba v, hB := h.hB, Bc := h.Bc, Bcw := h.Bcw, Bp := h.Bp, Ba := h.Ba
    hc := blk_other h.hc h.ca i v, hcw := blk_other h.hcw h.cwa i v, hp := blk_other h.hp h.pa i v, ha := blk_set h.ha i v
    cp := h.cp, cwp := h.cwp, ca := h.ca, cwa := h.cwa, pa := h.pa }
theorem MS.hdr (h : MS B w0 w c cw p a d n cap cells) (n' cap' : Nat) : MS B w0 (w.setCell ⟨p, 1, none⟩ (.slice (some ⟨a, 0, none⟩) n' cap')) c cw p a d n' cap' cells :=
  { below := h.below.setCell h.Bp _, hB := h.hB, Bc := h.Bc, Bcw := h.Bcw, Bp := h.Bp, Ba := h.Ba
    hc := blk_other h.hc h.cp 1 _, hcw := blk_other h.hcw h.cwp 1 _, hp := blk_set h.hp 1 _, ha := blk_other h.ha (Ne.symm h.pa) 1 _
    cp := h.cp, cwp := h.cwp, ca := h.ca, cwa := h.cwa, pa := h.pa }
theorem MS.neg (h : MS B w0 w c cw p a d n cap cells) : MS B w0 (w.setCell ⟨p, 0, none⟩ (.bool false)) c cw p a d n cap cells :=
  { below := h.below.setCell h.Bp _, hB := h.hB, Bc := h.Bc, Bcw := h.Bcw, Bp := h.Bp, Ba := h.Ba
    hc := blk_other h.hc h.cp 0 _, hcw := blk_other h.hcw h.cwp 0 _, hp := blk_set h.hp 0 _, ha := blk_other h.ha (Ne.symm h.pa) 0 _
    cp := h.cp, cwp := h.cwp, ca := h.ca, cwa := h.cwa, pa := h.pa }
theorem MS.drewN (h : MS B w0 w c cw p a d n cap cells) (k : Nat) : MS B w0 (w.drewN k) c cw p a d n cap cells :=
  { h with below := below_drewN h.below k }
theorem MS.size (h : MS B w0 w c cw p a d n cap cells) : B ≤ w.heap.size := Nat.le_trans h.hB h.below.size
theorem MS.alloc (h : MS B w0 w c cw p a d n cap cells) (o : Obj) : MS B w0 (w.alloc o) c cw p a d n cap cells :=
  { h with below := h.below.alloc h.size o, hc := heap_alloc_of h.hc, hcw := heap_alloc_of h.hcw, hp := heap_alloc_of h.hp, ha := heap_alloc_of h.ha }
theorem MS.other (h : MS B w0 w c cw p a d n cap cells) (b i : Nat) (v : Value) (hb : B ≤ b) (n1 : c ≠ b) (n2 : cw ≠ b) (n3 : p ≠ b) (n4 : a ≠ b) : MS B w0 (w.setCell ⟨b, i, none⟩ v) c cw p a d n cap cells :=
  { h with below := h.below.setCell hb v, hc := blk_other h.hc n1 i v, hcw := blk_other h.hcw n2 i v, hp := blk_other h.hp n3 i v, ha := blk_other h.ha n4 i v }
/-- M gets new words -/
theorem MS.fresh (h : MS B w0 w c cw p a d n cap cells) (n' cap' : Nat) (cells' : Array Value) :
    MS B w0 (((w.setCell ⟨p, 1, none⟩ (.slice (some ⟨w.heap.size, 0, none⟩) n' cap')).setCell ⟨p, 0, none⟩ (.bool false)).alloc (.cells cells' 89)) c cw p w.heap.size d n' cap' cells' := by
  have lc := blk_lt h.hc
  have lcw := blk_lt h.hcw
  have lp := blk_lt h.hp
  have hs : ((w.setCell ⟨p, 1, none⟩ (.slice (some ⟨w.heap.size, 0, none⟩) n' cap')).setCell ⟨p, 0, none⟩ (.bool false)).heap.size = w.heap.size := by simp [World.setCell]
  have hb := h.below.setCell (p := ⟨p, 1, none⟩) h.Bp (.slice (some ⟨w.heap.size, 0, none⟩) n' cap')
  have hb2 := hb.setCell (p := ⟨p, 0, none⟩) h.Bp (.bool false)
  refine { below := hb2.alloc (by rw [hs]; exact h.size) _, hB := h.hB, Bc := h.Bc, Bcw := h.Bcw, Bp := h.Bp, Ba := h.size,
           hc := heap_alloc_of (blk_other (blk_other h.hc h.cp 1 _) h.cp 0 _), hcw := heap_alloc_of (blk_other (blk_other h.hcw h.cwp 1 _) h.cwp 0 _),
           hp := heap_alloc_of (blk_set (blk_set h.hp 1 _) 0 _), ha := ?_,
           cp := h.cp, cwp := h.cwp, ca := Nat.ne_of_lt lc, cwa := Nat.ne_of_lt lcw, pa := Nat.ne_of_lt lp }
  have := heap_alloc_new ((w.setCell ⟨p, 1, none⟩ (.slice (some ⟨w.heap.size, 0, none⟩) n' cap')).setCell ⟨p, 0, none⟩ (.bool false)) (.cells cells' 89)
  rw [hs] at this
  exact this
end Go.Proofs.YtjejffijhlppmaaGreatDoor
