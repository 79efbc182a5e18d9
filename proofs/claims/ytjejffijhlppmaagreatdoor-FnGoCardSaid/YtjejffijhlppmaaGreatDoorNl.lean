/-
  The contracts of the laws' steps, in quotients: what Unsigned, Quotient, Divides and DividesSigned say over the constants that the code makes.
-/
import Derived.Test.YtjejffijhlppmaaGreatDoorNj
import Derived.Test.YtjejffijhlppmaaGreatDoorNk
import Derived.Test.YtjejffijhlppmaaGreatDoorBw
namespace Go.Proofs.YtjejffijhlppmaaGreatDoor
open Go.Dv Go.RowKit
set_option linter.unusedVariables false

/-- c is a divisor that is turned: positive, of n bits, no power of two -/
structure Cu (n c : Int) : Prop where
  hn : isW n
  c0 : 0 < c
  c1 : c < pw n
  p : pt c.toNat = true
/-- and below half -/
structure Cs (n c : Int) : Prop where
  hn : isW n
  c0 : 0 < c
  c1 : c < pw n / 2
  p : pt c.toNat = true
theorem Cu.lt {n c : Int} (h : Cu n c) : c < 18446744073709551616 := by have := (pw_pos h.hn).2.1; have := h.c1; omega
theorem Cs.u {n c : Int} (h : Cs n c) : Cu n c := ⟨h.hn, h.c0, by have := h.c1; have := (pw_pos h.hn).1; omega, h.p⟩
theorem Cs.lt {n c : Int} (h : Cs n c) : c < 9223372036854775808 := by have := (pw_pos h.hn).2.1; have := h.c1; omega

theorem umagicQ {n c : Int} (h : Cu n c) (d : Int) (hd : low n d = c) (w : World) :
    Calls Tryz.prog 19 #[.int .u64 n, .int .i64 d] w fun e w' => e = .returned (.agg #[.int .i64 (blen c), .int .u64 (umg n c)]) ∧ Below w.heap.size w w' :=
  umagic_impl n d c h.hn hd h.c0 h.c1 h.p w
theorem smagicQ {n c : Int} (h : Cs n c) (w : World) :
    Calls Tryz.prog 24 #[.int .u64 n, .int .i64 c] w fun e w' => e = .returned (.agg #[.int .i64 (blen c - 1), .int .u64 (smg n c)]) ∧ Below w.heap.size w w' :=
  smagic_impl n c h.hn h.c0 h.c1 h.p w
theorem udivQ {n c : Int} (h : Cu n c) (d : Int) (hd : low n d = c) (w : World) (hT : Tab w) :
    Calls Tryz.prog 21 #[.int .u64 n, .int .i64 d] w fun e w' => e = .returned (.agg #[.int .i64 (tz c), .int .u64 (inv n (oddp c)), .int .u64 0, .int .u64 (msk n / c)]) ∧ Below w.heap.size w w' :=
  udivisible_any n d c h.hn h.c0 h.lt hd w hT
theorem sdivQ {n c : Int} (h : Cs n c) (w : World) (hT : Tab w) :
    Calls Tryz.prog 27 #[.int .u64 n, .int .i64 c] w fun e w' => e = .returned (.agg #[.int .i64 (tz c), .int .u64 (inv n (oddp c)), .int .u64 (sdA n c), .int .u64 (sdM n c)]) ∧ Below w.heap.size w w' :=
  sdivisible_any n c h.hn h.c0 h.lt w hT
/-- the quotient without a sign -/
theorem unsignedQ {n c : Int} (h : Cu n c) (x q : Int) (x0 : 0 ≤ x) (x1 : x < pw n) (hq : Hid (x / c = q)) (w : World) :
    Calls Tryz.prog 18 #[.int .u64 n, .agg #[.int .i64 (blen c), .int .u64 (umg n c)], .int .u64 x] w (NRet 15 q w) := by
  obtain ⟨a1, a2, -⟩ := ts_spec c h.c0 h.lt h.p
  obtain ⟨u0, u1⟩ := umg_range h.hn c h.c0 h.c1 h.p
  have hp := (pw_pos h.hn).2.1
  have := unsigned_any n (blen c) (umg n c) x h.hn (by omega) (by omega) (by omega) (by omega) x0 (by omega) w
  rw [um_law h.hn c x h.c0 h.c1 h.p x0 x1, hq.out] at this
  exact this
/-- the quotient with a sign -/
theorem quotientQ {n c : Int} (h : Cs n c) (x y q : Int) (x0 : -(pw n / 2) ≤ x) (x1 : x < pw n / 2) (hy : Hid (siz x = y)) (hq : Hid (y / c = q)) (w : World) :
    Calls Tryz.prog 23 #[.int .u64 n, .agg #[.int .i64 (blen c - 1), .int .u64 (smg n c)], .int .i64 x] w (NRet 15 q w) := by
  obtain ⟨a1, a2, -⟩ := ts_spec c h.c0 h.u.lt h.p
  obtain ⟨u0, u1⟩ := smg_range h.hn c h.c0 h.c1 h.p
  have hp := pw_pos h.hn
  have hyr : 0 ≤ y ∧ 2 * y ≤ pw n ∧ (x < 0 → 1 ≤ y) := by
    rw [← hy.out]; unfold siz; split <;> omega
  obtain ⟨l1, l2⟩ := sm_law h.hn c y h.c0 h.c1 h.p hyr.1 hyr.2.1
  have := quotient_any n (blen c - 1) (smg n c) x y h.hn (by omega) (by omega) (by omega) (by omega) (by omega) (by omega) hy.out (fun hneg => l2 (hyr.2.2 hneg)) w
  rw [l1, hq.out] at this
  exact this
/-- the test without a sign -/
theorem dividesQ {n c : Int} (h : Cu n c) (x : Int) (b : Bool) (x0 : 0 ≤ x) (x1 : x < pw n) (hb : Hid ((x % c == 0) = b)) (w : World) :
    Calls Tryz.prog 20 #[.int .u64 n, .agg #[.int .i64 (tz c), .int .u64 (inv n (oddp c)), .int .u64 0, .int .u64 (msk n / c)], .int .u64 x] w fun e w' => e = .returned (.bool b) ∧ Below w.heap.size w w' := by
  obtain ⟨t0, t1, -⟩ := tz_lt h.hn c h.c0 h.c1
  have := divides_any n (tz c) (inv n (oddp c)) 0 (msk n / c) x h.hn t0 t1 w
  rw [udiv_law h.hn c x h.c0 h.c1 x0 x1, hb.out] at this
  exact this
/-- the test with a sign -/
theorem dividesSignedQ {n c : Int} (h : Cs n c) (x : Int) (b : Bool) (x0 : -(pw n / 2) ≤ x) (x1 : x < pw n / 2) (hb : Hid ((siz x % c == 0) = b)) (w : World) :
    Calls Tryz.prog 26 #[.int .u64 n, .agg #[.int .i64 (tz c), .int .u64 (inv n (oddp c)), .int .u64 (sdA n c), .int .u64 (sdM n c)], .int .i64 x] w fun e w' => e = .returned (.bool b) ∧ Below w.heap.size w w' := by
  obtain ⟨t0, t1, -⟩ := tz_lt h.hn c h.c0 h.u.c1
  have := dividesSigned_any n (tz c) (inv n (oddp c)) (sdA n c) (sdM n c) x h.hn t0 t1 w
  rw [sdiv_law h.hn c x h.c0 h.c1 h.p x0 x1, hb.out] at this
  exact this
/-- a comparison, its answer under a name -/
theorem cmpQ (va vb : Value) (n m : Nat) (x y r : Int) (hr : Hid (cmpI x y = r)) (hn : n ≤ 1000) (hm : m ≤ 1000) (w : World) (ha : NV w n x va) (hb : NV w m y vb) :
    Calls Tryz.prog 17 #[va, vb] w fun e w' => e = .returned (.int .i64 r) ∧ w = w' := by
  rw [← hr.out]
  exact natCmp_any va vb n m x y hn hm w ha hb
end Go.Proofs.YtjejffijhlppmaaGreatDoor
