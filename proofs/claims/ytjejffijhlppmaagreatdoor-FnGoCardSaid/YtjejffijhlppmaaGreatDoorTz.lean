/-
  The contract of math/bits.TrailingZeros64, over the table in its variable.
-/
import Derived.Test.YtjejffijhlppmaaGreatDoorBase
import Derived.Lib.TrailingZeros
import Derived.Deep.QuietTactic
import Derived.BigQuiet
import Derived.WalkLawsBesides
namespace Go.Dv
set_option linter.unusedVariables false
open Go.RowKit

theorem quietA {P : Program} {f : FuncId} {args : Array Value} {w : World} {a n : Nat} {v : Value}
    (h : Calls P f args (w.drewN (a + n)) fun e w' => e = .returned v ∧ w.drewN (a + n) = w') :
    Calls P f args (w.drewN (a + n)) fun e w'' => e = .returned v ∧ ∃ m, w'' = w.drewN (a + m) :=
  h.mono fun _ _ ⟨he, hm⟩ => ⟨he, n, hm.symm⟩
@[go_sem] theorem setCell_drewN (w : World) (q : Nat) (a : Addr) (v : Value) : (w.drewN q).setCell a v = (w.setCell a v).drewN q := rfl
@[go_sem] theorem alloc_drewN (w : World) (q : Nat) (o : Obj) : (w.drewN q).alloc o = (w.alloc o).drewN q := rfl
/-- a callee that leaves the world alone, inside a region that draws -/
theorem quietS {P : Program} {f : FuncId} {args : Array Value} {w : World} {n : Nat} {v : Value}
    (h : Calls P f args (w.drewN n) fun e w' => e = .returned v ∧ w.drewN n = w') : Calls P f args (w.drewN n) fun e w'' => e = .returned v ∧ ∃ m, w'' = w.drewN m :=
  h.mono fun _ _ ⟨he, hm⟩ => ⟨he, n, hm.symm⟩
theorem quietD {P : Program} {f : FuncId} {args : Array Value} {w : World} {n : Nat} {v : Value}
    (h : Calls P f args (w.drewN n) fun e w' => e = .returned v ∧ ∃ q, (w.drewN n).drewN q = w') : Calls P f args (w.drewN n) fun e w'' => e = .returned v ∧ ∃ m, w'' = w.drewN m :=
  h.mono fun _ _ ⟨he, q, hm⟩ => ⟨he, n + q, by rw [← hm, World.drewN_drewN]⟩
/-- a block of four cells that was just laid, behind a call that keeps what was there -/
theorem cells4 {w1 w2 : World} {v0 v1 v2 v3 : Value} {t : TypeId} (hb : Below (w1.alloc (.cells #[v0, v1, v2, v3] t)).heap.size (w1.alloc (.cells #[v0, v1, v2, v3] t)) w2) :
    w2.cell? ⟨w1.heap.size, 0, none⟩ = some v0 ∧ w2.cell? ⟨w1.heap.size, 1, none⟩ = some v1 ∧ w2.cell? ⟨w1.heap.size, 2, none⟩ = some v2 ∧ w2.cell? ⟨w1.heap.size, 3, none⟩ = some v3 := by
  have hp : ∀ j, w2.cell? ⟨w1.heap.size, j, none⟩ = (w1.alloc (.cells #[v0, v1, v2, v3] t)).cell? ⟨w1.heap.size, j, none⟩ := fun j => hb.cell (by simp)
  refine ⟨?_, ?_, ?_, ?_⟩ <;> rw [hp, World.cell?_alloc_at _ _ _ _ rfl] <;> rfl
/-- The table of math/bits in its variable. -/
structure Tab (w : World) : Prop where
  pos : 0 < w.heap.size
  cells : ∀ j, j < 64 → w.cell? ⟨0, j, none⟩ = some (.int .u8 (Lib.deBruijn64tab.getD j 0))
theorem tab_of_cells {w : World} (h : ∀ j, j < 64 → w.cell? ⟨0, j, none⟩ = some (.int .u8 (Lib.deBruijn64tab.getD j 0))) : Tab w :=
  ⟨by
    have h0 := h 0 (by omega)
    by_cases hp : 0 < w.heap.size
    · exact hp
    · have hn : w.heap[0]? = none := Array.getElem?_eq_none (by omega)
      simp [World.cell?, hn] at h0, h⟩
theorem Tab.below {w w' : World} (h : Tab w) (hb : Below w.heap.size w w') : Tab w' :=
  ⟨Nat.lt_of_lt_of_le h.pos hb.size, fun j hj => (hb.cell (p := ⟨0, j, none⟩) h.pos).trans (h.cells j hj)⟩
theorem Tab.alloc {w : World} (h : Tab w) (o : Obj) : Tab (w.alloc o) := h.below ((Below.refl _ _).alloc (Nat.le_refl _) o)
theorem Tab.drew {w : World} (h : Tab w) : Tab w.drew := h.below (Below.refl _ _).drew

theorem tz_key (n a : Nat) (hx : n < 18446744073709551616) (hx0 : n ≠ 0) (hlow : n &&& (18446744073709551616 - n) = a) :
    IntKind.u64.wrap (bits BinOp.and IntKind.u64 (n : Int) (IntKind.u64.wrap (-(n : Int))) * 285870213051353865) / 288230376151711744 = ((a * 285870213051353865 % 18446744073709551616 / 288230376151711744 : Nat) : Int) := by
  have e1 : IntKind.u64.wrap (-(n : Int)) = ((18446744073709551616 - n : Nat) : Int) := by rw [IntKind.wrap_u64]; omega
  rw [e1, bits_and_u64_nat n _ hx (by omega), hlow, IntKind.wrap_u64]
  omega

def tz (x : Int) : Int := (Lib.ctz 64 x.toNat : Nat)
/-- x is 2 to the power of tz x, times an odd number. -/
theorem tz_spec (x : Int) (h0 : 0 < x) (h1 : x < 18446744073709551616) : 0 ≤ tz x ∧ tz x ≤ 63 ∧ ∃ d, x = 2 ^ (tz x).toNat * d ∧ d % 2 = 1 ∧ 0 < d := by
  obtain ⟨m, hm, hlt⟩ := Lib.ctzFrom_spec 64 x.toNat (by omega) (by omega)
  have e : Lib.ctz 64 x.toNat = Lib.ctzFrom 64 x.toNat := by unfold Lib.ctz; rw [if_neg (by omega)]
  unfold tz
  rw [e]
  refine ⟨by omega, by omega, ((2 * m + 1 : Nat) : Int), ?_, by omega, by omega⟩
  have : (Lib.ctzFrom 64 x.toNat : Int).toNat = Lib.ctzFrom 64 x.toNat := by omega
  rw [this]
  have h2 : x = (x.toNat : Int) := by omega
  rw [h2]
  exact_mod_cast hm
theorem msk_quo {n d : Int} (hn : isW n) (hd : 0 < d) : IntKind.u64.wrap ((msk n).tdiv d) = msk n / d := by
  have h : 0 ≤ msk n ∧ msk n ≤ 18446744073709551615 := by
    have := pw_cases hn; rw [msk_pw hn]; omega
  exact IntWalk.u64_quo _ _ ⟨h.1, h.2, hd⟩
/-- one step of Newton's iteration as the code has it -/
def nw (d m : Int) : Int := IntKind.u64.wrap (m * IntKind.u64.wrap (2 - IntKind.u64.wrap (m * d)))
/-- the inverse of an odd number modulo 2 to the power of n, as the code finds it -/
def inv (n d : Int) : Int := bits .and .u64 (nw d (nw d (nw d (nw d (nw d d))))) (msk n)
/-- the odd part -/
def oddp (x : Int) : Int := x / 2 ^ (tz x).toNat
/-- the addend of a signed test -/
def sdA (n d : Int) : Int := bits .and .u64 (IntKind.u64.wrap (Int.tdiv (msk n / 2) (oddp d))) (IntKind.u64.wrap (-IntKind.u64.wrap (2 ^ (tz d).toNat)))
/-- its greatest number -/
def sdM (n d : Int) : Int := IntKind.u64.wrap (2 * sdA n d) / 2 ^ (tz d).toNat
theorem oddp_pos (x : Int) (h0 : 0 < x) (h1 : x < 18446744073709551616) : 0 < oddp x ∧ oddp x % 2 = 1 ∧ x = 2 ^ (tz x).toNat * oddp x := by
  obtain ⟨-, -, d, hd, ho, hp⟩ := tz_spec x h0 h1
  have e : oddp x = d := by
    unfold oddp
    have : (0 : Int) < 2 ^ (tz x).toNat := Int.pow_pos (by omega)
    rw [hd, ← hd]
    exact Int.ediv_eq_of_eq_mul_right (by omega) hd
  rw [e]; exact ⟨hp, ho, hd⟩
/-- spec.Turned -/
def turned (n x k : Int) : Int := bits .and .u64 (bits .or .u64 (bits .and .u64 x (msk n) / 2 ^ k.toNat) (IntKind.u64.wrap (bits .and .u64 x (msk n) * 2 ^ (n - k).toNat))) (msk n)
/-- spec.Size -/
def siz (x : Int) : Int := if x < 0 then -x else x
theorem siz_neg (x : Int) (h : x < 0) (h0 : -9223372036854775808 ≤ x) : IntKind.u64.wrap (-IntKind.u64.wrap x) = siz x := by
  unfold siz; rw [if_pos h, IntKind.wrap_u64, IntKind.wrap_u64]; omega
theorem siz_pos (x : Int) (h : ¬ x < 0) (h1 : x < 9223372036854775808) : IntKind.u64.wrap x = siz x := by
  unfold siz; rw [if_neg h, IntKind.wrap_u64]; omega
theorem and_one (y : Int) (h0 : 0 ≤ y) (h1 : y < 18446744073709551616) : bits .and .u64 y 1 = y % 2 := by
  rw [u64_and y 1 h0 h1 (by omega) (by omega)]
  have : y.toNat &&& (1 : Int).toNat = y.toNat % 2 := Nat.and_two_pow_sub_one_eq_mod y.toNat 1
  rw [this]; omega
/-- halving on the way to the odd part -/
theorem half_step (x : Int) (h0 : 0 < x) (h1 : x < 18446744073709551616) (k : Nat) (hk : (k : Int) ≤ tz x) :
    0 < x / 2 ^ k ∧ x / 2 ^ k < 18446744073709551616 ∧ x / 2 ^ k / 2 = x / 2 ^ (k + 1) ∧ ((x / 2 ^ k) % 2 = 0 → (k : Int) + 1 ≤ tz x) ∧ ((x / 2 ^ k) % 2 ≠ 0 → (k : Int) = tz x) := by
  obtain ⟨k0, k1, d, hd, ho, hp⟩ := tz_spec x h0 h1
  obtain ⟨j, hj⟩ : ∃ j : Nat, (tz x).toNat = k + j := ⟨(tz x).toNat - k, by omega⟩
  have hP : (0 : Int) < 2 ^ k := Int.pow_pos (by omega)
  have hJ : (0 : Int) < 2 ^ j := Int.pow_pos (by omega)
  have e : x / 2 ^ k = 2 ^ j * d := by
    refine Int.ediv_eq_of_eq_mul_right (by omega) ?_
    rw [hj, Int.pow_add, Int.mul_assoc] at hd
    exact hd
  refine ⟨by rw [e]; exact Int.mul_pos hJ hp, ?_, ?_, ?_, ?_⟩
  · have := Int.ediv_le_self (2 ^ k) (show 0 ≤ x by omega); omega
  · rw [Int.pow_succ, Int.ediv_ediv_of_nonneg (by omega)]
  · intro h
    rw [e] at h
    rcases j with _ | j
    · simp at h; omega
    · omega
  · intro h
    rw [e] at h
    rcases j with _ | j
    · omega
    · exfalso; apply h
      rw [Int.pow_succ, Int.mul_comm (2 ^ j), Int.mul_assoc]; simp
/-- spec.Divides, spec.DividesSigned -/
def dvB (n k m mx x : Int) : Bool := decide (turned n (IntKind.u64.wrap (x * m)) k ≤ mx)
def dsB (n k m a mx x : Int) : Bool := decide (turned n (IntKind.u64.wrap (IntKind.u64.wrap (IntKind.u64.wrap x * m) + a)) k ≤ mx)
theorem eq_tt {a b : Bool} (h : a = b) : (a == b) = true := by rw [h]; simp
theorem nw_fold (d : Int) : ∀ m, IntKind.u64.wrap (m * IntKind.u64.wrap (2 - IntKind.u64.wrap (m * d))) = nw d m := fun _ => rfl
end Go.Dv
namespace Go.Proofs.YtjejffijhlppmaaGreatDoor
open Go.Dv Go.RowKit

theorem tz_core (x : Int) (k idx : Nat) (w : World) (hx0 : (x == 0) = false)
    (key : IntKind.u64.wrap (bits BinOp.and IntKind.u64 x (IntKind.u64.wrap (-x)) * 285870213051353865) / 288230376151711744 = (idx : Int))
    (hi : idx < 64) (hk : k < 64) (hcell : w.cell? ⟨0, idx, none⟩ = some (.int .u8 k)) :
    Calls Tryz.prog 57 #[.int .u64 x] w fun e w' => e = .returned (.int .i64 k) ∧ w = w' := by
  go_enter Tryz.func57, Tryz.ntmps57
  go_wp2_with (simp only [key])
  go_ret
  exact ⟨rfl, rfl⟩

theorem tz_any (x : Int) (h0 : 0 < x) (h1 : x < 18446744073709551616) (w : World) (hT : Tab w) :
    Calls Tryz.prog 57 #[.int .u64 x] w fun e w' => e = .returned (.int .i64 (tz x)) ∧ w = w' := by
  obtain ⟨n, rfl⟩ := Int.eq_ofNat_of_zero_le (show 0 ≤ x by omega)
  have hx0 : n ≠ 0 := by omega
  have hx : n < 18446744073709551616 := by omega
  obtain ⟨hlow, hk⟩ := Lib.lowest_bit 64 n hx0 hx
  obtain ⟨hi, htab⟩ := Lib.deBruijn64_at _ hk
  have hcell := hT.cells _ hi
  rw [htab] at hcell
  exact tz_core (n : Int) (Lib.ctz 64 n) _ w (by simp; omega) (tz_key n _ hx hx0 hlow) hi hk hcell
end Go.Proofs.YtjejffijhlppmaaGreatDoor
