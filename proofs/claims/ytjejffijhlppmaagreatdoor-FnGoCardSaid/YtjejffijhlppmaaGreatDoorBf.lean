/-
  The contracts of big2's Int: SetUint64, SetInt64, NewInt, BitLen.
-/
import Derived.Test.YtjejffijhlppmaaGreatDoorBe
import Derived.Test.YtjejffijhlppmaaGreatDoorShelf
import Derived.Lib.ItoaNum
namespace Go.Dv
open Go.RowKit
set_option linter.unusedVariables false
/-- one step of the smear of the bits behind the first one -/
def sm (k t : Int) : Int := bits .or .u64 t (t / k)
def sm6 (t : Int) : Int := bits .or .u64 t (t / 65536 / 65536)
/-- the bits of a number -/
def blen (x : Int) : Int := (Lib.bitLen x.toNat : Nat)
theorem or_spec (L : Nat) (hL : L ≤ 64) (x y : Int) (h0 : 0 < x) (h1 : x < 2 ^ L) (y0 : 0 ≤ y) (y1 : y ≤ x) : x ≤ bits .or .u64 x y ∧ bits .or .u64 x y < 2 ^ L := by
  have hP : (2 : Int) ^ L ≤ 18446744073709551616 := by
    have h2 : (2 : Nat) ^ L ≤ 2 ^ 64 := Nat.pow_le_pow_right (by omega) hL
    have h3 : ((2 ^ L : Nat) : Int) ≤ ((2 ^ 64 : Nat) : Int) := by exact_mod_cast h2
    have e : ((2 ^ L : Nat) : Int) = (2 : Int) ^ L := Int.natCast_pow 2 L
    have e2 : ((2 ^ 64 : Nat) : Int) = 18446744073709551616 := by decide
    omega
  rw [u64_or x y (by omega) (by omega) (by omega) (by omega)]
  have a := Nat.left_le_or (n := x.toNat) (m := y.toNat)
  have hx : x.toNat < 2 ^ L := by
    have e : ((2 ^ L : Nat) : Int) = (2 : Int) ^ L := Int.natCast_pow 2 L
    omega
  have b : x.toNat ||| y.toNat < 2 ^ L := Nat.or_lt_two_pow hx (by omega)
  have e : ((2 ^ L : Nat) : Int) = (2 : Int) ^ L := Int.natCast_pow 2 L
  omega
theorem sm_spec (k : Int) (hk : 1 ≤ k) (L : Nat) (hL : L ≤ 64) (x : Int) (h0 : 0 < x) (h1 : x < 2 ^ L) : x ≤ sm k x ∧ sm k x < 2 ^ L :=
  or_spec L hL x _ h0 h1 (Int.ediv_nonneg (by omega) (by omega)) (Int.ediv_le_self _ (by omega))
theorem sm6_spec (L : Nat) (hL : L ≤ 64) (x : Int) (h0 : 0 < x) (h1 : x < 2 ^ L) : x ≤ sm6 x ∧ sm6 x < 2 ^ L :=
  or_spec L hL x _ h0 h1 (by omega) (by omega)
theorem smear_spec (L : Nat) (hL : L ≤ 64) (x : Int) (h0 : 0 < x) (h1 : x < 2 ^ L) :
    x ≤ sm6 (sm 65536 (sm 256 (sm 16 (sm 4 (sm 2 x))))) ∧ sm6 (sm 65536 (sm 256 (sm 16 (sm 4 (sm 2 x))))) < 2 ^ L := by
  obtain ⟨a1, b1⟩ := sm_spec 2 (by omega) L hL x h0 h1
  obtain ⟨a2, b2⟩ := sm_spec 4 (by omega) L hL _ (by omega) b1
  obtain ⟨a3, b3⟩ := sm_spec 16 (by omega) L hL _ (by omega) b2
  obtain ⟨a4, b4⟩ := sm_spec 256 (by omega) L hL _ (by omega) b3
  obtain ⟨a5, b5⟩ := sm_spec 65536 (by omega) L hL _ (by omega) b4
  obtain ⟨a6, b6⟩ := sm6_spec L hL _ (by omega) b5
  exact ⟨by omega, b6⟩
theorem bitLen_bounds (x : Nat) (h0 : x ≠ 0) (h1 : x < 2 ^ 64) : 1 ≤ Lib.bitLen x ∧ Lib.bitLen x ≤ 64 ∧ 2 ^ (Lib.bitLen x - 1) ≤ x ∧ x < 2 ^ Lib.bitLen x := by
  obtain ⟨a, b, c⟩ := Lib.bitLenAux_bounds 64 x h1 h0
  refine ⟨a, ?_, b, c⟩
  by_cases h : Lib.bitLen x ≤ 64
  · exact h
  · exfalso
    have : 2 ^ 64 ≤ 2 ^ (Lib.bitLenAux 64 x - 1) := Nat.pow_le_pow_right (by omega) (by unfold Lib.bitLen at h; omega)
    omega
theorem bitLen_unique (x L : Nat) (h0 : x ≠ 0) (h1 : x < 2 ^ 64) (hL : 1 ≤ L) (a : 2 ^ (L - 1) ≤ x) (b : x < 2 ^ L) : Lib.bitLen x = L := by
  obtain ⟨c, -, d, e⟩ := bitLen_bounds x h0 h1
  have u1 : L - 1 < Lib.bitLen x := (Nat.pow_lt_pow_iff_right (by omega)).1 (Nat.lt_of_le_of_lt a e)
  have u2 : Lib.bitLen x - 1 < L := (Nat.pow_lt_pow_iff_right (by omega)).1 (Nat.lt_of_le_of_lt d b)
  omega
theorem blen_range (x : Int) (h0 : 0 < x) (h1 : x < 18446744073709551616) : 1 ≤ blen x ∧ blen x ≤ 64 := by
  obtain ⟨a, b, -, -⟩ := bitLen_bounds x.toNat (by omega) (by omega)
  unfold blen; omega
theorem blen_smear (x : Int) (h0 : 0 < x) (h1 : x < 18446744073709551616) :
    0 < sm6 (sm 65536 (sm 256 (sm 16 (sm 4 (sm 2 x))))) ∧ sm6 (sm 65536 (sm 256 (sm 16 (sm 4 (sm 2 x))))) < 18446744073709551616 ∧
    ((Lib.bitLen (sm6 (sm 65536 (sm 256 (sm 16 (sm 4 (sm 2 x)))))).toNat : Nat) : Int) = blen x := by
  have hx : x.toNat < 2 ^ 64 := by omega
  obtain ⟨c, c2, d, e⟩ := bitLen_bounds x.toNat (by omega) hx
  have e' : x < (2 : Int) ^ Lib.bitLen x.toNat := by
    have q : ((2 ^ Lib.bitLen x.toNat : Nat) : Int) = (2 : Int) ^ Lib.bitLen x.toNat := Int.natCast_pow 2 _
    omega
  obtain ⟨s1, s2⟩ := smear_spec (Lib.bitLen x.toNat) c2 x h0 e'
  obtain ⟨-, s3⟩ := smear_spec 64 (by omega) x h0 (by show x < 18446744073709551616; exact h1)
  generalize sm6 (sm 65536 (sm 256 (sm 16 (sm 4 (sm 2 x))))) = Y at *
  have s3' : Y < 18446744073709551616 := s3
  refine ⟨by omega, s3', ?_⟩
  unfold blen
  congr 1
  refine bitLen_unique Y.toNat _ (by omega) (by omega) c (by omega) ?_
  have q : ((2 ^ Lib.bitLen x.toNat : Nat) : Int) = (2 : Int) ^ Lib.bitLen x.toNat := Int.natCast_pow 2 _
  omega
end Go.Dv
namespace Go.Proofs.YtjejffijhlppmaaGreatDoor
open Go.Dv Go.RowKit
set_option linter.unusedVariables false

set_option maxHeartbeats 1000000 in
theorem setUint64_any (p : Nat) (x : Int) (h0 : 0 < x) (h1 : x < 18446744073709551616) (w : World) (hP : w.heap[p]? = some (.cells #[.bool false, .slice none 0 0] 78 (0, 0))) :
    Calls Tryz.prog 47 #[.pointer (some ⟨p, 0, none⟩), .int .u64 x] w fun e w' =>
      e = .returned (.pointer (some ⟨p, 0, none⟩)) ∧ ((w.setCell ⟨p, 1, none⟩ (.slice (some ⟨w.heap.size, 0, none⟩) 1 1)).setCell ⟨p, 0, none⟩ (.bool false)).alloc (.cells #[.int .u64 x] 89) = w' := by
  have hlt := blk_lt hP
  have p0 := blk_cell hP 0 rfl
  have p1 := blk_cell hP 1 rfl
  have f0 := blk_frozen hP 0
  have f1 := blk_frozen hP 1
  clear hP
  go_enter Tryz.func47, Tryz.ntmps47
  go_wp2_with (first | (go_at_call 72; refine (make_one _).mono ?_; rintro e w' ⟨rfl, rfl⟩) | go_in)
  go_ret
  exact ⟨rfl, rfl⟩

set_option maxHeartbeats 1000000 in
theorem setInt64_any (p : Nat) (x : Int) (h0 : 0 < x) (h1 : x < 9223372036854775808) (w : World) (hP : w.heap[p]? = some (.cells #[.bool false, .slice none 0 0] 78 (0, 0))) :
    Calls Tryz.prog 58 #[.pointer (some ⟨p, 0, none⟩), .int .i64 x] w fun e w' =>
      e = .returned (.pointer (some ⟨p, 0, none⟩)) ∧ ((w.setCell ⟨p, 1, none⟩ (.slice (some ⟨w.heap.size, 0, none⟩) 1 1)).setCell ⟨p, 0, none⟩ (.bool false)).alloc (.cells #[.int .u64 x] 89) = w' := by
  have hlt := blk_lt hP
  have p0 := blk_cell hP 0 rfl
  have p1 := blk_cell hP 1 rfl
  have f0 := blk_frozen hP 0
  have f1 := blk_frozen hP 1
  clear hP
  go_enter Tryz.func58, Tryz.ntmps58
  go_wp2_with (first | (go_at_call 72; refine (make_one _).mono ?_; rintro e w' ⟨rfl, rfl⟩) | go_in)
  go_ret
  exact ⟨rfl, rfl⟩

set_option maxHeartbeats 1000000 in
theorem newInt_one (w : World) :
    Calls Tryz.prog 49 #[.int .i64 1] w fun e w' =>
      e = .returned (.pointer (some ⟨w.heap.size + 1, 0, none⟩)) ∧ (w.alloc (.cells #[.int .u64 1] 89)).alloc (.cells #[.bool false, .slice (some ⟨w.heap.size, 0, none⟩) 1 1] 78) = w' := by
  go_enter Tryz.func49, Tryz.ntmps49
  go_wp2
  go_ret
  exact ⟨rfl, rfl⟩

set_option maxRecDepth 100000 in
set_option maxHeartbeats 1000000 in
theorem bitLen_one (p a : Nat) (x : Int) (h0 : 0 < x) (h1 : x < 18446744073709551616) (w : World) (p1 : w.cell? ⟨p, 1, none⟩ = some (.slice (some ⟨a, 0, none⟩) 1 1)) (ca : w.cell? ⟨a, 0, none⟩ = some (.int .u64 x)) :
    Calls Tryz.prog 48 #[.pointer (some ⟨p, 0, none⟩)] w fun e w' => e = .returned (.int .i64 (blen x)) ∧ w = w' := by
  go_enter Tryz.func48, Tryz.ntmps48
  obtain ⟨y0, y1, hL⟩ := blen_smear x h0 h1
  have HL := Lib.hid hL
  obtain ⟨g0, g1⟩ := blen_range x h0 h1
  clear hL
  have h1' : ∀ t, bits BinOp.or IntKind.u64 t (t / 2) = sm 2 t := fun _ => rfl
  have h2' : ∀ t, bits BinOp.or IntKind.u64 t (t / 4) = sm 4 t := fun _ => rfl
  have h3' : ∀ t, bits BinOp.or IntKind.u64 t (t / 16) = sm 16 t := fun _ => rfl
  have h4' : ∀ t, bits BinOp.or IntKind.u64 t (t / 256) = sm 256 t := fun _ => rfl
  have h5' : ∀ t, bits BinOp.or IntKind.u64 t (t / 65536) = sm 65536 t := fun _ => rfl
  go_wp2_with fail
  go_enter Tryz.func60, Tryz.ntmps60
  have h6' : ∀ t, bits BinOp.or IntKind.u64 t (t / 65536 / 65536) = sm6 t := fun _ => rfl
  go_wp2_with fail
  refine (Tryz.bits_Len _ _ (by omega) (by omega)).mono ?_
  rintro e w' ⟨rfl, rfl⟩
  rw [HL.out]
  go_wp2_with fail
  go_ret
  exact ⟨rfl, rfl⟩
end Go.Proofs.YtjejffijhlppmaaGreatDoor
