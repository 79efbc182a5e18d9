/-
  The contracts of bitsDiv64 and bitsDiv: two words by one.
-/
import Derived.Test.YtjejffijhlppmaaGreatDoorBf
import Derived.LoopTactic
import Derived.Lib.EndianBits
namespace Go.Dv
set_option linter.unusedVariables false
/-! Knuth's digit: y = y1 * B + y0, the estimate is never below, and exact where the loop ends -/
theorem digit_start (B y1 y0 u u1 : Int) (hy1 : 0 < y1) (hy0 : 0 ≤ y0) (hB : 0 < B) (hu : 0 ≤ u) (h1B : u1 < B) :
    (u * B + u1) / (y1 * B + y0) ≤ u / y1 := by
  have hpos : 0 < y1 * B := Int.mul_pos hy1 hB
  have h := Int.emod_add_mul_ediv u y1
  have hr := Int.emod_lt_of_pos u hy1
  have hr0 := Int.emod_nonneg u (show y1 ≠ 0 by omega)
  have hq0 : 0 ≤ u / y1 := Int.ediv_nonneg hu (by omega)
  generalize u / y1 = q at *
  generalize u % y1 = r at *
  have : u * B + u1 < (q + 1) * (y1 * B + y0) := by
    have e : (q + 1) * (y1 * B + y0) = (y1 * q) * B + y1 * B + (q + 1) * y0 := by grind
    have e2 : u * B = (y1 * q) * B + r * B := by rw [← h]; grind
    have e3 : 0 ≤ (q + 1) * y0 := Int.mul_nonneg (by omega) hy0
    have e4 : (r + 1) * B ≤ y1 * B := Int.mul_le_mul_of_nonneg_right (by omega) (by omega)
    have e5 : (r + 1) * B = r * B + B := by grind
    omega
  have := Int.ediv_lt_of_lt_mul (show 0 < y1 * B + y0 by omega) this
  omega

theorem digit_down_big (B y u u1 q1 : Int) (hy : 0 < y) (hu : u < y) (h1B : u1 < B) (hB : 0 < B) (hq : B ≤ q1) : (u * B + u1) / y ≤ q1 - 1 := by
  have : u * B + u1 < B * y := by
    have : (u + 1) * B ≤ y * B := Int.mul_le_mul_of_nonneg_right (by omega) (by omega)
    have e : (u + 1) * B = u * B + B := by grind
    have e2 : B * y = y * B := Int.mul_comm _ _
    omega
  have := Int.ediv_lt_of_lt_mul hy this
  omega

theorem digit_down_test (B y1 y0 u u1 q1 r : Int) (hy : 0 < y1 * B + y0) (hinv : q1 * y1 + r = u) (ht : B * r + u1 < q1 * y0) :
    (u * B + u1) / (y1 * B + y0) ≤ q1 - 1 := by
  have : u * B + u1 < q1 * (y1 * B + y0) := by
    rw [← hinv]
    have e : q1 * (y1 * B + y0) = (q1 * y1) * B + q1 * y0 := by grind
    have e2 : (q1 * y1 + r) * B = (q1 * y1) * B + B * r := by grind
    omega
  have := Int.ediv_lt_of_lt_mul hy this
  omega

theorem digit_end (B y1 y0 u u1 q1 r : Int) (hy : 0 < y1 * B + y0) (hinv : q1 * y1 + r = u) (hge : (u * B + u1) / (y1 * B + y0) ≤ q1) (ht : q1 * y0 ≤ B * r + u1) :
    q1 = (u * B + u1) / (y1 * B + y0) := by
  refine Int.le_antisymm ?_ hge
  rw [Int.le_ediv_iff_mul_le hy, ← hinv]
  have e : q1 * (y1 * B + y0) = (q1 * y1) * B + q1 * y0 := by grind
  have e2 : (q1 * y1 + r) * B = (q1 * y1) * B + B * r := by grind
  omega

theorem digit_break (B y0 u1 q1 r : Int) (hB : 0 < B) (h1 : 0 ≤ u1) (hy0 : 0 ≤ y0) (hy0B : y0 < B) (hq : q1 ≤ B) (hr : B ≤ r) : q1 * y0 ≤ B * r + u1 := by
  have a : q1 * y0 ≤ B * y0 := Int.mul_le_mul_of_nonneg_right hq hy0
  have b : B * y0 ≤ B * r := Int.mul_le_mul_of_nonneg_left (by omega) (by omega)
  omega

/-- two digits of a quotient -/
theorem two_digits (B y u u1 u0 : Int) (hy : 0 < y) :
    (u * B + u1) / y * B + ((u * B + u1) % y * B + u0) / y = (u * (B * B) + (u1 * B + u0)) / y ∧
    ((u * B + u1) % y * B + u0) % y = (u * (B * B) + (u1 * B + u0)) % y := by
  have h := Int.emod_add_mul_ediv (u * B + u1) y
  generalize (u * B + u1) / y = q at *
  generalize (u * B + u1) % y = r at *
  have e : u * (B * B) + (u1 * B + u0) = (r * B + u0) + y * (q * B) := by
    have : u * (B * B) + (u1 * B + u0) = (u * B + u1) * B + u0 := by grind
    rw [this, ← h]; grind
  rw [e, Int.add_mul_ediv_left _ _ (by omega), Int.add_mul_emod_self_left]
  constructor
  · omega
  · rfl

/-- the two-by-one quotient by a reciprocal -/
theorem by_reciprocal (W d v x1 x0 qq : Int) (hd : 0 < d) (hdW : d < W) (hv : v = (W * W - 1) / d) (hx10 : 0 ≤ x1) (hx1 : x1 < d) (hx00 : 0 ≤ x0) (hx0 : x0 < W)
    (hqq : qq = (x1 * v + x0) / W) :
    0 ≤ x1 * W + x0 - qq * d ∧ x1 * W + x0 - qq * d < W + d := by
  have hW : 0 < W := by omega
  have a1 := Int.emod_add_mul_ediv (x1 * v + x0) W
  have a2 := Int.emod_nonneg (x1 * v + x0) (show W ≠ 0 by omega)
  have a3 := Int.emod_lt_of_pos (x1 * v + x0) hW
  rw [← hqq] at a1
  generalize (x1 * v + x0) % W = f at *
  have b1 := Int.emod_add_mul_ediv (W * W - 1) d
  have b2 := Int.emod_nonneg (W * W - 1) (show d ≠ 0 by omega)
  have b3 := Int.emod_lt_of_pos (W * W - 1) hd
  rw [← hv] at b1
  generalize (W * W - 1) % d = g at *
  -- W * qq = x1 v + x0 - f;  d * v = W W - 1 - g
  have c1 : W * (x1 * W + x0 - qq * d) = x1 * (1 + g) + x0 * (W - d) + f * d := by
    have e1 : W * qq * d = (x1 * v + x0 - f) * d := by rw [show W * qq = x1 * v + x0 - f by omega]
    have e2 : x1 * (d * v) = x1 * (W * W - 1 - g) := by rw [show d * v = W * W - 1 - g by omega]
    grind
  have hlo : 0 ≤ x1 * (1 + g) + x0 * (W - d) + f * d := by
    have p1 : 0 ≤ x1 * (1 + g) := Int.mul_nonneg hx10 (by omega)
    have p2 : 0 ≤ x0 * (W - d) := Int.mul_nonneg hx00 (by omega)
    have p3 : 0 ≤ f * d := Int.mul_nonneg a2 (by omega)
    omega
  constructor
  · have : 0 ≤ W * (x1 * W + x0 - qq * d) := by rw [c1]; exact hlo
    by_cases h : 0 ≤ x1 * W + x0 - qq * d
    · exact h
    · have : W * (x1 * W + x0 - qq * d) ≤ W * (-1) := Int.mul_le_mul_of_nonneg_left (by omega) (by omega)
      omega
  · have p1 : x1 * (1 + g) ≤ (d - 1) * d := by
      have q1 : x1 * (1 + g) ≤ x1 * d := Int.mul_le_mul_of_nonneg_left (by omega) hx10
      have q2 : x1 * d ≤ (d - 1) * d := Int.mul_le_mul_of_nonneg_right (by omega) (by omega)
      omega
    have p2 : x0 * (W - d) ≤ (W - 1) * (W - d) := Int.mul_le_mul_of_nonneg_right (by omega) (by omega)
    have p3 : f * d ≤ (W - 1) * d := Int.mul_le_mul_of_nonneg_right (by omega) (by omega)
    have p4 : W * (x1 * W + x0 - qq * d) < W * (W + d) := by
      rw [c1]
      have e : W * (W + d) = (W - 1) * (W - d) + (W - 1) * d + (d - 1) * d + (W + W * d - d * d + d) := by grind
      have p5 : d * d ≤ W * d := Int.mul_le_mul_of_nonneg_right (by omega) (by omega)
      omega
    exact Int.lt_of_mul_lt_mul_left p4 (by omega)

theorem reciprocal (W u : Int) (hu : 0 < u) : ((W - 1 - u) * W + (W - 1)) / u = (W * W - 1) / u - W := by
  have : (W - 1 - u) * W + (W - 1) = (W * W - 1) + u * (-W) := by grind
  rw [this, Int.add_mul_ediv_left _ _ (by omega)]; omega

/-- one digit to the base 2^32 -/
theorem dig_start (y y1 y0 u u1 D : Int) (hy : y = y1 * 4294967296 + y0) (h1 : 2147483648 ≤ y1) (h2 : y1 < 4294967296) (h3 : 0 ≤ y0) (h4 : y0 < 4294967296) (hu : 0 ≤ u) (huy : u < y) (g0 : 0 ≤ u1) (g1 : u1 < 4294967296)
    (hD : (u * 4294967296 + u1) / y = D) : D ≤ u / y1 ∧ u / y1 ≤ 4294967297 ∧ 0 ≤ u / y1 ∧ u / y1 * y1 + u % y1 = u ∧ 0 ≤ u % y1 ∧ u % y1 < y1 ∧ 0 ≤ D ∧ D < 4294967296 := by
  have a := digit_start 4294967296 y1 y0 u u1 (by omega) h3 (by omega) hu g1
  rw [← hy, hD] at a
  have b := Int.emod_add_mul_ediv u y1
  refine ⟨a, ?_, Int.ediv_nonneg hu (by omega), ?_, Int.emod_nonneg _ (by omega), Int.emod_lt_of_pos _ (by omega), ?_, ?_⟩
  · have : u / y1 < 4294967298 := Int.ediv_lt_of_lt_mul (by omega) (by omega)
    omega
  · rw [Int.mul_comm]; omega
  · rw [← hD]; exact Int.ediv_nonneg (by omega) (by omega)
  · rw [← hD]; exact Int.ediv_lt_of_lt_mul (by omega) (by omega)
theorem dig_round (y y1 y0 u u1 D q r : Int) (hy : y = y1 * 4294967296 + y0) (h1 : 2147483648 ≤ y1) (h2 : y1 < 4294967296) (h3 : 0 ≤ y0) (h4 : y0 < 4294967296) (hu : 0 ≤ u) (huy : u < y) (g0 : 0 ≤ u1) (g1 : u1 < 4294967296)
    (hD : (u * 4294967296 + u1) / y = D) (hinv : q * y1 + r = u) (hq : D ≤ q) (hq2 : q ≤ 4294967297) (hr : 0 ≤ r) (hr2 : r < 4294967296) (hc : 4294967296 ≤ q ∨ 4294967296 * r + u1 < q * y0) :
    D ≤ q - 1 ∧ (q - 1) * y1 + (r + y1) = u ∧ (4294967296 ≤ r + y1 → q - 1 = D) := by
  have hinv' : (q - 1) * y1 + (r + y1) = u := by rw [← hinv]; grind
  have hd : D ≤ q - 1 := by
    rw [← hD]
    rcases hc with hc | hc
    · exact digit_down_big 4294967296 y u u1 q (by omega) huy g1 (by omega) hc
    · rw [hy]; exact digit_down_test 4294967296 y1 y0 u u1 q r (by omega) hinv hc
  refine ⟨hd, hinv', fun hb => ?_⟩
  have e := digit_break 4294967296 y0 u1 (q - 1) (r + y1) (by omega) g0 h3 h4 (by omega) hb
  have e2 := digit_end 4294967296 y1 y0 u u1 (q - 1) (r + y1) (by omega) hinv' (by rw [← hy, hD]; exact hd) e
  rw [e2, ← hD, hy]
theorem dig_end (y y1 y0 u u1 D q r : Int) (hy : y = y1 * 4294967296 + y0) (h1 : 2147483648 ≤ y1) (h3 : 0 ≤ y0) 
    (hD : (u * 4294967296 + u1) / y = D) (hinv : q * y1 + r = u) (hq : D ≤ q) (hc : q * y0 ≤ 4294967296 * r + u1) : q = D := by
  have e2 := digit_end 4294967296 y1 y0 u u1 q r (by omega) hinv (by rw [← hy, hD]; exact hq) hc
  rw [e2, ← hD, hy]
theorem small_mul (a b A B : Int) (ha : 0 ≤ a) (hb : 0 ≤ b) (hA : a ≤ A) (hB : b ≤ B) : 0 ≤ a * b ∧ a * b ≤ A * B :=
  ⟨Int.mul_nonneg ha hb, Int.mul_le_mul hA hB hb (by omega)⟩
theorem and32 (x : Int) (h0 : 0 ≤ x) (h1 : x < 18446744073709551616) : bits .and .u64 x 4294967295 = x % 4294967296 := by
  have := and_msk (n := 32) (by unfold isW; omega) x h0 h1
  exact this
end Go.Dv
namespace Go.Proofs.YtjejffijhlppmaaGreatDoor
open Go.Dv Go.RowKit
set_option linter.unusedVariables false

set_option maxHeartbeats 1000000 in
theorem bitsDiv64_zero (lo y : Int) (h0 : 0 ≤ lo) (h1 : lo < 18446744073709551616) (g0 : 0 < y) (g1 : y < 18446744073709551616) (w : World) :
    Calls Tryz.prog 121 #[.int .u64 0, .int .u64 lo, .int .u64 y] w fun e w' =>
      e = .returned (.tuple #[.int .u64 (lo / y), .int .u64 (lo % y)]) ∧ ∃ k, w.drewN k = w' := by
  have e1 : IntKind.u64.wrap (Int.tdiv lo y) = lo / y := by
    rw [Int.tdiv_eq_ediv_of_nonneg h0]
    exact wraps_u64 _ (Int.ediv_nonneg h0 (by omega)) (Int.lt_of_le_of_lt (Int.ediv_le_self _ h0) h1)
  have e2 : IntKind.u64.wrap (Int.tmod lo y) = lo % y := by
    rw [Int.tmod_eq_emod_of_nonneg h0]
    exact wraps_u64 _ (Int.emod_nonneg _ (by omega)) (by have := Int.emod_lt_of_pos lo g0; omega)
  have hy : y ≠ 0 := by omega
  have hy2 : ¬ y ≤ 0 := by omega
  go_enter Tryz.func121, Tryz.ntmps121
  go_wp2_with fail
  go_quiet (fail)
  go_wp2_with fail
  go_ret2
  exact ⟨rfl, _, rfl⟩

theorem blen_top (y : Int) (g0 : 9223372036854775808 ≤ y) (g1 : y < 18446744073709551616) : Lib.bitLen y.toNat = 64 := by
  exact bitLen_unique y.toNat 64 (by omega) (by omega) (by omega) (by omega) (by omega)

set_option maxHeartbeats 4000000 in
theorem bitsDiv64_top (hi lo y : Int) (u0 : 0 < hi) (u1 : hi < y) (h0 : 0 ≤ lo) (h1 : lo < 18446744073709551616) (g0 : 9223372036854775808 ≤ y) (g1 : y < 18446744073709551616) (w : World) :
    Calls Tryz.prog 121 #[.int .u64 hi, .int .u64 lo, .int .u64 y] w fun e w' =>
      e = .returned (.tuple #[.int .u64 ((hi * 18446744073709551616 + lo) / y), .int .u64 ((hi * 18446744073709551616 + lo) % y)]) ∧ w = w' := by
  have hb := blen_top y g0 g1
  obtain ⟨y1, hy1⟩ : ∃ v, y / 4294967296 = v := ⟨_, rfl⟩
  obtain ⟨y0, hy0⟩ : ∃ v, bits .and .u64 y 4294967295 = v := ⟨_, rfl⟩
  obtain ⟨l1, hl1⟩ : ∃ v, lo / 4294967296 = v := ⟨_, rfl⟩
  obtain ⟨l0, hl0⟩ : ∃ v, bits .and .u64 lo 4294967295 = v := ⟨_, rfl⟩
  have hm1 := and32 y (by omega) g1
  have hm2 := and32 lo (by omega) h1
  have b1 : 2147483648 ≤ y1 := by omega
  have b2 : y1 < 4294967296 := by omega
  have b3 : 0 ≤ y0 := by omega
  have b4 : y0 < 4294967296 := by omega
  have b5 : 0 ≤ l1 := by omega
  have b6 : l1 < 4294967296 := by omega
  have b7 : 0 ≤ l0 := by omega
  have b8 : l0 < 4294967296 := by omega
  have hlo : lo = l1 * 4294967296 + l0 := by omega
  have hyy : y = y1 * 4294967296 + y0 := by omega
  have HLO := Lib.hid hlo
  have HYY := Lib.hid hyy
  obtain ⟨Q1, hQ1⟩ : ∃ v, hi / y1 = v := ⟨_, rfl⟩
  obtain ⟨S1, hS1⟩ : ∃ v, hi % y1 = v := ⟨_, rfl⟩
  obtain ⟨D1, hD1⟩ : ∃ v, (hi * 4294967296 + l1) / y = v := ⟨_, rfl⟩
  obtain ⟨R1, hR1⟩ : ∃ v, (hi * 4294967296 + l1) % y = v := ⟨_, rfl⟩
  obtain ⟨D0, hD0⟩ : ∃ v, (R1 * 4294967296 + l0) / y = v := ⟨_, rfl⟩
  obtain ⟨R0, hR0⟩ : ∃ v, (R1 * 4294967296 + l0) % y = v := ⟨_, rfl⟩
  obtain ⟨Q0, hQ0⟩ : ∃ v, R1 / y1 = v := ⟨_, rfl⟩
  obtain ⟨S0, hS0⟩ : ∃ v, R1 % y1 = v := ⟨_, rfl⟩
  have r0 : 0 ≤ R1 := by rw [← hR1]; exact Int.emod_nonneg _ (by omega)
  have r1 : R1 < y := by rw [← hR1]; exact Int.emod_lt_of_pos _ (by omega)
  have HS1 := Lib.hid (dig_start y y1 y0 hi l1 D1 hyy b1 b2 b3 b4 (by omega) u1 b5 b6 hD1)
  have HS0 := Lib.hid (dig_start y y1 y0 R1 l0 D0 hyy b1 b2 b3 b4 r0 r1 b7 b8 hD0)
  rw [hQ1, hS1] at HS1
  rw [hQ0, hS0] at HS0
  have ht := two_digits 4294967296 y hi l1 l0 (by omega)
  rw [hD1, hR1, hD0, hR0, ← hlo] at ht
  have HT := Lib.hid ht
  obtain ⟨c1, c2, c3, c4, c5, c6, c7, c8⟩ := HS1.out
  obtain ⟨d1, d2, d3, d4, d5, d6, d7, d8⟩ := HS0.out
  have f1 : IntKind.u64.wrap (hi.tdiv y1) = Q1 := by
    rw [Int.tdiv_eq_ediv_of_nonneg (by omega), hQ1]; exact wraps_u64 _ (by omega) (by omega)
  have f2 : IntKind.u64.wrap (hi - IntKind.u64.wrap (Q1 * y1)) = S1 := by
    have : IntKind.u64.wrap (Q1 * y1) = Q1 * y1 := wraps_u64 _ (Int.mul_nonneg c3 (by omega)) (by omega)
    rw [this]
    have : hi - Q1 * y1 = S1 := by omega
    rw [this]; exact wraps_u64 _ (by omega) (by omega)
  have e1 := Int.emod_add_mul_ediv (hi * 4294967296 + l1) y
  rw [hR1, hD1, Int.mul_comm] at e1
  have e0 := Int.emod_add_mul_ediv (R1 * 4294967296 + l0) y
  rw [hR0, hD0, Int.mul_comm] at e0
  have s0 : 0 ≤ R0 := by rw [← hR0]; exact Int.emod_nonneg _ (by omega)
  have s1 : R0 < y := by rw [← hR0]; exact Int.emod_lt_of_pos _ (by omega)
  have f3 : IntKind.u64.wrap (IntKind.u64.wrap (IntKind.u64.wrap (hi * 4294967296) + l1) - IntKind.u64.wrap (D1 * y)) = R1 := by
    simp only [IntKind.wrap_u64]
    generalize D1 * y = t at *
    omega
  have f6 : IntKind.u64.wrap (IntKind.u64.wrap (IntKind.u64.wrap (R1 * 4294967296) + l0) - IntKind.u64.wrap (D0 * y)) = R0 := by
    simp only [IntKind.wrap_u64]
    generalize D0 * y = t at *
    omega
  have f4 : IntKind.u64.wrap (R1.tdiv y1) = Q0 := by
    rw [Int.tdiv_eq_ediv_of_nonneg (by omega), hQ0]; exact wraps_u64 _ (by omega) (by omega)
  have f5 : IntKind.u64.wrap (R1 - IntKind.u64.wrap (Q0 * y1)) = S0 := by
    have : IntKind.u64.wrap (Q0 * y1) = Q0 * y1 := wraps_u64 _ (Int.mul_nonneg d3 (by omega)) (by omega)
    rw [this]
    have : R1 - Q0 * y1 = S0 := by omega
    rw [this]; exact wraps_u64 _ (by omega) (by omega)
  have HF := Lib.hid (show (hi * 18446744073709551616 + lo) / y = D1 * 4294967296 + D0 ∧ (hi * 18446744073709551616 + lo) % y = R0 from by
    rw [show hi * 18446744073709551616 = hi * (4294967296 * 4294967296) by omega]
    exact ⟨ht.1.symm, ht.2.symm⟩)
  clear e1 e0
  have HD1 := Lib.hid hD1
  have HD0 := Lib.hid hD0
  have HR1 := Lib.hid hR1
  have HR0 := Lib.hid hR0
  have hm3 : bits .or .u64 hi (lo / 18446744073709551616) = hi := by
    have : lo / 18446744073709551616 = 0 := by omega
    rw [this, u64_or hi 0 (by omega) (by omega) (by omega) (by omega)]; simp; omega
  have hy : y ≠ 0 := by omega
  have hy2 : ¬ y ≤ hi := by omega
  have hy3 : hi ≠ 0 := by omega
  clear hlo hyy hQ1 hS1 hQ0 hS0 hD1 hD0 hR1 hR0 ht hm1 hm2 c4 d4
  go_enter Tryz.func121, Tryz.ntmps121
  go_wp2_with (first | (go_at_call 127; refine (Tryz.bits_LeadingZeros64 y _ (by omega) (by omega)).mono ?_; rintro e w' ⟨rfl, rfl⟩; rw [hb]))
  go_loop [15, 16] (fun a b => ∃ q r : Int, D1 ≤ q ∧ q ≤ 4294967297 ∧ 0 ≤ r ∧ r < 4294967296 ∧ Hid (q * y1 + r = hi) ∧ a = .int .u64 q ∧ b = .int .u64 r) (fun a _ => (intOf a).toNat)
  case atStart => exact ⟨Q1, S1, c1, c2, c5, by omega, Lib.hid HS1.out.2.2.2.1, rfl, rfl⟩
  case round =>
    obtain ⟨q, r, k1, k2, k3, k4, k5, rfl, rfl⟩ := hrel
    have j1 := dig_round y y1 y0 hi l1 D1 q r HYY.out b1 b2 b3 b4 (by omega) u1 b5 b6 HD1.out k5.out k1 k2 k3 k4
    have J0 := Lib.hid j1
    clear j1
    by_cases hA : 4294967296 ≤ q ∨ 4294967296 * r + l1 < q * y0
    · by_cases hbr : 4294967296 ≤ r + y1
      · have hDD : q - 1 = D1 := (J0.out hA).2.2 hbr
        by_cases hq : 4294967296 ≤ q
        · clear hA
          go_wp2_with fail
          go_loop [16, 18] (fun b a => ∃ q r : Int, D0 ≤ q ∧ q ≤ 4294967297 ∧ 0 ≤ r ∧ r < 4294967296 ∧ Hid (q * y1 + r = R1) ∧ a = .int .u64 q ∧ b = .int .u64 r) (fun _ a => (intOf a).toNat)
          case atStart => exact ⟨Q0, S0, d1, d2, d5, by omega, Lib.hid HS0.out.2.2.2.1, rfl, rfl⟩
          case round =>
            obtain ⟨q', r', m1, m2, m3, m4, m5, rfl, rfl⟩ := hrel
            have J0 := Lib.hid (dig_round y y1 y0 R1 l0 D0 q' r' HYY.out b1 b2 b3 b4 r0 r1 b7 b8 HD0.out m5.out m1 m2 m3 m4)
            by_cases hA' : 4294967296 ≤ q' ∨ 4294967296 * r' + l0 < q' * y0
            · by_cases hbr' : 4294967296 ≤ r' + y1
              · have hDD' : q' - 1 = D0 := (J0.out hA').2.2 hbr'
                by_cases hq' : 4294967296 ≤ q'
                · clear hA'
                  go_wp2_with fail
                  go_ret2
                  exact ⟨by rw [HF.out.1, HF.out.2]; rfl, rfl⟩
                · have hA2 : 4294967296 * r' + l0 < q' * y0 := by omega
                  have hsm := small_mul q' y0 4294967295 4294967295 (by omega) (by omega) (by omega) (by omega)
                  have hw : IntKind.u64.wrap (q' * y0) = q' * y0 := wraps_u64 _ (by omega) (by omega)
                  clear hsm hA'
                  go_wp2_with fail
                  go_ret2
                  exact ⟨by rw [HF.out.1, HF.out.2]; rfl, rfl⟩
              · have J1 := Lib.hid (J0.out hA').2.1
                have j2 := (J0.out hA').1
                by_cases hq' : 4294967296 ≤ q'
                · clear hA'
                  go_wp2_with fail
                  go_round
                  case rel => exact ⟨q' - 1, r' + y1, j2, by omega, by omega, by omega, J1, by go_num, by go_num⟩
                  case measure => simp [intOf]; omega
                · have hA2 : 4294967296 * r' + l0 < q' * y0 := by omega
                  have hsm := small_mul q' y0 4294967295 4294967295 (by omega) (by omega) (by omega) (by omega)
                  have hw : IntKind.u64.wrap (q' * y0) = q' * y0 := wraps_u64 _ (by omega) (by omega)
                  clear hsm hA'
                  go_wp2_with fail
                  go_round
                  case rel => exact ⟨q' - 1, r' + y1, j2, by omega, by omega, by omega, J1, by go_num, by go_num⟩
                  case measure => simp [intOf]; omega
            · have hq' : q' < 4294967296 := by omega
              have hA2 : q' * y0 ≤ 4294967296 * r' + l0 := by omega
              have hsm := small_mul q' y0 4294967295 4294967295 (by omega) (by omega) (by omega) (by omega)
              have hw : IntKind.u64.wrap (q' * y0) = q' * y0 := wraps_u64 _ (by omega) (by omega)
              obtain rfl : q' = D0 := dig_end y y1 y0 R1 l0 _ q' r' HYY.out b1 b3 HD0.out m5.out m1 hA2
              clear hsm hA'
              go_wp2_with fail
              go_ret2
              exact ⟨by rw [HF.out.1, HF.out.2]; rfl, rfl⟩
        · have hA2 : 4294967296 * r + l1 < q * y0 := by omega
          have hsm := small_mul q y0 4294967295 4294967295 (by omega) (by omega) (by omega) (by omega)
          have hw : IntKind.u64.wrap (q * y0) = q * y0 := wraps_u64 _ (by omega) (by omega)
          clear hsm hA
          go_wp2_with fail
          go_loop [16, 18] (fun b a => ∃ q r : Int, D0 ≤ q ∧ q ≤ 4294967297 ∧ 0 ≤ r ∧ r < 4294967296 ∧ Hid (q * y1 + r = R1) ∧ a = .int .u64 q ∧ b = .int .u64 r) (fun _ a => (intOf a).toNat)
          case atStart => exact ⟨Q0, S0, d1, d2, d5, by omega, Lib.hid HS0.out.2.2.2.1, rfl, rfl⟩
          case round =>
            obtain ⟨q', r', m1, m2, m3, m4, m5, rfl, rfl⟩ := hrel
            have J0 := Lib.hid (dig_round y y1 y0 R1 l0 D0 q' r' HYY.out b1 b2 b3 b4 r0 r1 b7 b8 HD0.out m5.out m1 m2 m3 m4)
            by_cases hA' : 4294967296 ≤ q' ∨ 4294967296 * r' + l0 < q' * y0
            · by_cases hbr' : 4294967296 ≤ r' + y1
              · have hDD' : q' - 1 = D0 := (J0.out hA').2.2 hbr'
                by_cases hq' : 4294967296 ≤ q'
                · clear hA'
                  go_wp2_with fail
                  go_ret2
                  exact ⟨by rw [HF.out.1, HF.out.2]; rfl, rfl⟩
                · have hA2 : 4294967296 * r' + l0 < q' * y0 := by omega
                  have hsm := small_mul q' y0 4294967295 4294967295 (by omega) (by omega) (by omega) (by omega)
                  have hw : IntKind.u64.wrap (q' * y0) = q' * y0 := wraps_u64 _ (by omega) (by omega)
                  clear hsm hA'
                  go_wp2_with fail
                  go_ret2
                  exact ⟨by rw [HF.out.1, HF.out.2]; rfl, rfl⟩
              · have J1 := Lib.hid (J0.out hA').2.1
                have j2 := (J0.out hA').1
                by_cases hq' : 4294967296 ≤ q'
                · clear hA'
                  go_wp2_with fail
                  go_round
                  case rel => exact ⟨q' - 1, r' + y1, j2, by omega, by omega, by omega, J1, by go_num, by go_num⟩
                  case measure => simp [intOf]; omega
                · have hA2 : 4294967296 * r' + l0 < q' * y0 := by omega
                  have hsm := small_mul q' y0 4294967295 4294967295 (by omega) (by omega) (by omega) (by omega)
                  have hw : IntKind.u64.wrap (q' * y0) = q' * y0 := wraps_u64 _ (by omega) (by omega)
                  clear hsm hA'
                  go_wp2_with fail
                  go_round
                  case rel => exact ⟨q' - 1, r' + y1, j2, by omega, by omega, by omega, J1, by go_num, by go_num⟩
                  case measure => simp [intOf]; omega
            · have hq' : q' < 4294967296 := by omega
              have hA2 : q' * y0 ≤ 4294967296 * r' + l0 := by omega
              have hsm := small_mul q' y0 4294967295 4294967295 (by omega) (by omega) (by omega) (by omega)
              have hw : IntKind.u64.wrap (q' * y0) = q' * y0 := wraps_u64 _ (by omega) (by omega)
              obtain rfl : q' = D0 := dig_end y y1 y0 R1 l0 _ q' r' HYY.out b1 b3 HD0.out m5.out m1 hA2
              clear hsm hA'
              go_wp2_with fail
              go_ret2
              exact ⟨by rw [HF.out.1, HF.out.2]; rfl, rfl⟩
      · have J1 := Lib.hid (J0.out hA).2.1
        have j2 := (J0.out hA).1
        by_cases hq : 4294967296 ≤ q
        · clear hA
          go_wp2_with fail
          go_round
          case rel => exact ⟨q - 1, r + y1, j2, by omega, by omega, by omega, J1, by go_num, by go_num⟩
          case measure => simp [intOf]; omega
        · have hA2 : 4294967296 * r + l1 < q * y0 := by omega
          have hsm := small_mul q y0 4294967295 4294967295 (by omega) (by omega) (by omega) (by omega)
          have hw : IntKind.u64.wrap (q * y0) = q * y0 := wraps_u64 _ (by omega) (by omega)
          clear hsm hA
          go_wp2_with fail
          go_round
          case rel => exact ⟨q - 1, r + y1, j2, by omega, by omega, by omega, J1, by go_num, by go_num⟩
          case measure => simp [intOf]; omega
    · have hq : q < 4294967296 := by omega
      have hA2 : q * y0 ≤ 4294967296 * r + l1 := by omega
      have hsm := small_mul q y0 4294967295 4294967295 (by omega) (by omega) (by omega) (by omega)
      have hw : IntKind.u64.wrap (q * y0) = q * y0 := wraps_u64 _ (by omega) (by omega)
      have hDD : q = D1 := dig_end y y1 y0 hi l1 _ q r HYY.out b1 b3 HD1.out k5.out k1 hA2
      clear hsm hA
      subst hDD
      go_wp2_with fail
      go_loop [16, 18] (fun b a => ∃ q r : Int, D0 ≤ q ∧ q ≤ 4294967297 ∧ 0 ≤ r ∧ r < 4294967296 ∧ Hid (q * y1 + r = R1) ∧ a = .int .u64 q ∧ b = .int .u64 r) (fun _ a => (intOf a).toNat)
      case atStart => exact ⟨Q0, S0, d1, d2, d5, by omega, Lib.hid HS0.out.2.2.2.1, rfl, rfl⟩
      case round =>
        obtain ⟨q', r', m1, m2, m3, m4, m5, rfl, rfl⟩ := hrel
        have J0 := Lib.hid (dig_round y y1 y0 R1 l0 D0 q' r' HYY.out b1 b2 b3 b4 r0 r1 b7 b8 HD0.out m5.out m1 m2 m3 m4)
        by_cases hA' : 4294967296 ≤ q' ∨ 4294967296 * r' + l0 < q' * y0
        · by_cases hbr' : 4294967296 ≤ r' + y1
          · have hDD' : q' - 1 = D0 := (J0.out hA').2.2 hbr'
            by_cases hq' : 4294967296 ≤ q'
            · clear hA'
              go_wp2_with fail
              go_ret2
              exact ⟨by rw [HF.out.1, HF.out.2]; rfl, rfl⟩
            · have hA2 : 4294967296 * r' + l0 < q' * y0 := by omega
              have hsm := small_mul q' y0 4294967295 4294967295 (by omega) (by omega) (by omega) (by omega)
              have hw : IntKind.u64.wrap (q' * y0) = q' * y0 := wraps_u64 _ (by omega) (by omega)
              clear hsm hA'
              go_wp2_with fail
              go_ret2
              exact ⟨by rw [HF.out.1, HF.out.2]; rfl, rfl⟩
          · have J1 := Lib.hid (J0.out hA').2.1
            have j2 := (J0.out hA').1
            by_cases hq' : 4294967296 ≤ q'
            · clear hA'
              go_wp2_with fail
              go_round
              case rel => exact ⟨q' - 1, r' + y1, j2, by omega, by omega, by omega, J1, by go_num, by go_num⟩
              case measure => simp [intOf]; omega
            · have hA2 : 4294967296 * r' + l0 < q' * y0 := by omega
              have hsm := small_mul q' y0 4294967295 4294967295 (by omega) (by omega) (by omega) (by omega)
              have hw : IntKind.u64.wrap (q' * y0) = q' * y0 := wraps_u64 _ (by omega) (by omega)
              clear hsm hA'
              go_wp2_with fail
              go_round
              case rel => exact ⟨q' - 1, r' + y1, j2, by omega, by omega, by omega, J1, by go_num, by go_num⟩
              case measure => simp [intOf]; omega
        · have hq' : q' < 4294967296 := by omega
          have hA2 : q' * y0 ≤ 4294967296 * r' + l0 := by omega
          have hsm := small_mul q' y0 4294967295 4294967295 (by omega) (by omega) (by omega) (by omega)
          have hw : IntKind.u64.wrap (q' * y0) = q' * y0 := wraps_u64 _ (by omega) (by omega)
          obtain rfl : q' = D0 := dig_end y y1 y0 R1 l0 _ q' r' HYY.out b1 b3 HD0.out m5.out m1 hA2
          clear hsm hA'
          go_wp2_with fail
          go_ret2
          exact ⟨by rw [HF.out.1, HF.out.2]; rfl, rfl⟩

set_option maxHeartbeats 1000000 in
theorem bitsDiv_zero (lo y : Int) (h0 : 0 ≤ lo) (h1 : lo < 18446744073709551616) (g0 : 0 < y) (g1 : y < 18446744073709551616) (w : World) :
    Calls Tryz.prog 108 #[.int .u64 0, .int .u64 lo, .int .u64 y] w fun e w' =>
      e = .returned (.tuple #[.int .u64 (lo / y), .int .u64 (lo % y)]) ∧ ∃ k, w.drewN k = w' := by
  go_enter Tryz.func108, Tryz.ntmps108
  go_wp2_with (first | (go_at_call 121; refine (bitsDiv64_zero lo y h0 h1 g0 g1 _).mono ?_; rintro e w' ⟨rfl, k, rfl⟩))
  go_ret2
  exact ⟨rfl, _, rfl⟩

set_option maxHeartbeats 1000000 in
theorem bitsDiv_top (hi lo y : Int) (u0 : 0 < hi) (u1 : hi < y) (h0 : 0 ≤ lo) (h1 : lo < 18446744073709551616) (g0 : 9223372036854775808 ≤ y) (g1 : y < 18446744073709551616) (w : World) :
    Calls Tryz.prog 108 #[.int .u64 hi, .int .u64 lo, .int .u64 y] w fun e w' =>
      e = .returned (.tuple #[.int .u64 ((hi * 18446744073709551616 + lo) / y), .int .u64 ((hi * 18446744073709551616 + lo) % y)]) ∧ w = w' := by
  go_enter Tryz.func108, Tryz.ntmps108
  go_wp2_with (first | (go_at_call 121; refine (bitsDiv64_top hi lo y u0 u1 h0 h1 g0 g1 _).mono ?_; rintro e w' ⟨rfl, rfl⟩))
  go_ret2
  exact ⟨rfl, rfl⟩
end Go.Proofs.YtjejffijhlppmaaGreatDoor
