/-
  The contracts of nlz, reciprocalWord and divWW: two words by one, by a reciprocal.
-/
import Derived.Test.YtjejffijhlppmaaGreatDoorBj
namespace Go.Dv
set_option linter.unusedVariables false
/-- the zeros ahead of a word, and 2 to their power -/
def nz (y : Int) : Int := 64 - blen y
def up (y : Int) : Int := 2 ^ (nz y).toNat
/-- the divisor moved up, its reciprocal -/
def nrm (y : Int) : Int := y * up y
def rcp (y : Int) : Int := (340282366920938463463374607431768211455) / nrm y - 18446744073709551616

theorem nz_range (y : Int) (h0 : 0 < y) (h1 : y < 18446744073709551616) : 0 ≤ nz y ∧ nz y ≤ 63 := by
  obtain ⟨a, b⟩ := blen_range y h0 h1
  unfold nz; omega
theorem up_pos (y : Int) : 0 < up y := Int.pow_pos (by omega)
theorem two_pow_split (s : Int) (h0 : 0 ≤ s) (h1 : s ≤ 64) : (2 : Int) ^ s.toNat * 2 ^ (64 - s).toNat = 18446744073709551616 := by
  rw [← Int.pow_add, show s.toNat + (64 - s).toNat = 64 by omega]; rfl
theorem nrm_range (y : Int) (h0 : 0 < y) (h1 : y < 18446744073709551616) : 9223372036854775808 ≤ nrm y ∧ nrm y < 18446744073709551616 := by
  obtain ⟨a, b, c, d⟩ := bitLen_bounds y.toNat (by omega) (by omega)
  have e := two_pow_split (nz y) (nz_range y h0 h1).1 (by have := (nz_range y h0 h1).2; omega)
  have e1 : (64 - nz y).toNat = Lib.bitLen y.toNat := by unfold nz blen; omega
  rw [e1] at e
  have c' : (2 : Int) ^ (Lib.bitLen y.toNat - 1) ≤ y := by
    have q : ((2 ^ (Lib.bitLen y.toNat - 1) : Nat) : Int) = (2 : Int) ^ (Lib.bitLen y.toNat - 1) := Int.natCast_pow 2 _
    omega
  have d' : y < (2 : Int) ^ Lib.bitLen y.toNat := by
    have q : ((2 ^ Lib.bitLen y.toNat : Nat) : Int) = (2 : Int) ^ Lib.bitLen y.toNat := Int.natCast_pow 2 _
    omega
  have f : (2 : Int) ^ Lib.bitLen y.toNat = 2 * 2 ^ (Lib.bitLen y.toNat - 1) := by
    rw [show Lib.bitLen y.toNat = (Lib.bitLen y.toNat - 1) + 1 by omega, Int.pow_succ]
    simp only [Nat.add_sub_cancel]; omega
  have hp := up_pos y
  change up y * _ = _ at e
  unfold nrm
  rw [f] at e d'
  generalize up y = P at *
  generalize (2 : Int) ^ (Lib.bitLen y.toNat - 1) = T at *
  constructor
  · have := Int.mul_le_mul_of_nonneg_right c' (show 0 ≤ P by omega)
    have e2 : P * (2 * T) = 2 * (T * P) := by grind
    omega
  · have := Int.mul_lt_mul_of_pos_right d' hp
    have e2 : P * (2 * T) = 2 * T * P := by grind
    omega
/-- the two words moved up -/
theorem moved (hi lo y : Int) (h0 : 0 ≤ hi) (h1 : hi < y) (g0 : 0 ≤ lo) (g1 : lo < 18446744073709551616) (hy0 : 0 < y) (hy : y < 18446744073709551616) :
    ∃ x1 x0 : Int, x1 * 18446744073709551616 + x0 = (hi * 18446744073709551616 + lo) * up y ∧ 0 ≤ x1 ∧ x1 < nrm y ∧ 0 ≤ x0 ∧ x0 < 18446744073709551616 ∧
      bits .or .u64 (IntKind.u64.wrap (hi * 2 ^ (nz y).toNat)) (lo / 2 ^ (64 - nz y).toNat) = x1 ∧ IntKind.u64.wrap (lo * 2 ^ (nz y).toNat) = x0 ∧
      IntKind.u64.wrap (y * 2 ^ (nz y).toNat) = nrm y ∧ (nz y = 0 → x1 = hi ∧ x0 = lo ∧ y = nrm y) := by
  obtain ⟨n0, n1⟩ := nz_range y hy0 hy
  obtain ⟨r0, r1⟩ := nrm_range y hy0 hy
  have e := two_pow_split (nz y) n0 (by omega)
  have hp := up_pos y
  have hq : (0 : Int) < 2 ^ (64 - nz y).toNat := Int.pow_pos (by omega)
  have hz : nz y = 0 → up y = 1 := fun h => by unfold up; rw [h]; rfl
  change up y * _ = _ at e
  change ∃ x1 x0 : Int, _ ∧ _ ∧ _ ∧ _ ∧ _ ∧ bits .or .u64 (IntKind.u64.wrap (hi * up y)) _ = x1 ∧ IntKind.u64.wrap (lo * up y) = x0 ∧ IntKind.u64.wrap (y * up y) = _ ∧ _
  have hm : ∀ v, v * up y % 2 ^ (nz y).toNat = 0 := fun v => Int.mul_emod_left _ _
  have hup : up y = 2 ^ (nz y).toNat := rfl
  unfold nrm at *
  have k1 : (hi + 1) * up y ≤ y * up y := Int.mul_le_mul_of_nonneg_right (by omega) (by omega)
  have k2 : (hi + 1) * up y = hi * up y + up y := by grind
  have k3 : 0 ≤ hi * up y := Int.mul_nonneg h0 (by omega)
  have d := Int.emod_add_mul_ediv lo (2 ^ (64 - nz y).toNat)
  have d0 := Int.emod_nonneg lo (show (2 : Int) ^ (64 - nz y).toNat ≠ 0 by omega)
  have d1 := Int.emod_lt_of_pos lo hq
  have d2 : 0 ≤ lo / 2 ^ (64 - nz y).toNat := Int.ediv_nonneg g0 (by omega)
  have d3 : lo / 2 ^ (64 - nz y).toNat < up y := Int.ediv_lt_of_lt_mul hq (by rw [e]; exact g1)
  have w1 : IntKind.u64.wrap (hi * up y) = hi * up y := wraps_u64 _ k3 (by omega)
  have w3 : IntKind.u64.wrap (y * up y) = y * up y := wraps_u64 _ (by omega) (by omega)
  have w4 : bits .or .u64 (hi * up y) (lo / 2 ^ (64 - nz y).toNat) = hi * up y + lo / 2 ^ (64 - nz y).toNat :=
    bits_join .u64 64 (by decide) (fun n a b => wraps_u64 n a b) (nz y).toNat _ _ k3 (hm hi) (by omega) d2 d3 (by omega)
  generalize hQ : (2 : Int) ^ (64 - nz y).toNat = Q at *
  generalize up y = P at *
  have j1 : lo * P = lo / Q * 18446744073709551616 + lo % Q * P := by
    rw [← e]
    have : lo * P = (lo % Q + Q * (lo / Q)) * P := by rw [d]
    rw [this]; grind
  have j2 : 0 ≤ lo % Q * P := Int.mul_nonneg d0 (by omega)
  have j3 : (lo % Q + 1) * P ≤ Q * P := Int.mul_le_mul_of_nonneg_right (by omega) (by omega)
  have j4 : (lo % Q + 1) * P = lo % Q * P + P := by grind
  have j5 : Q * P = 18446744073709551616 := by rw [Int.mul_comm]; exact e
  have w2 : IntKind.u64.wrap (lo * P) = lo % Q * P := by
    rw [IntKind.wrap_u64, j1]; omega
  refine ⟨hi * P + lo / Q, lo % Q * P, ?_, by omega, by omega, j2, by omega, by rw [w1, w4], w2, w3, fun h => ?_⟩
  · have : (hi * 18446744073709551616 + lo) * P = hi * P * 18446744073709551616 + lo * P := by grind
    omega
  · have hP := hz h
    subst hP
    have hQ' : Q = 18446744073709551616 := by omega
    subst hQ'
    omega
theorem u64_not (x : Int) (h0 : 0 ≤ x) (h1 : x < 18446744073709551616) : bits .xor .u64 IntKind.u64.max x = 18446744073709551615 - x := by
  have e : IntKind.u64.max = 18446744073709551615 := by decide
  rw [e, u64_xor _ x (by omega) (by omega) h0 h1]
  have : (18446744073709551615 : Int).toNat ^^^ x.toNat = 18446744073709551616 - (x.toNat + 1) := by
    apply Nat.eq_of_testBit_eq
    intro i
    rw [Nat.testBit_xor, show (18446744073709551616 : Nat) = 2 ^ 64 from rfl, Nat.testBit_two_pow_sub_succ (by omega), show ((18446744073709551615 : Int).toNat) = 2 ^ 64 - 1 from rfl, Nat.testBit_two_pow_sub_one]
    by_cases hi : i < 64
    · simp [hi]
    · simp only [hi, decide_false, Bool.false_and, Bool.false_xor]
      exact Nat.testBit_lt_two_pow (Nat.lt_of_lt_of_le (show x.toNat < 2 ^ 64 by omega) (Nat.pow_le_pow_right (by omega) (by omega)))
  rw [this]; omega
theorem rcp_range (y : Int) (h0 : 0 < y) (h1 : y < 18446744073709551616) : 0 ≤ rcp y ∧ rcp y < 18446744073709551616 := by
  obtain ⟨r0, r1⟩ := nrm_range y h0 h1
  unfold rcp
  have a : 18446744073709551616 ≤ 340282366920938463463374607431768211455 / nrm y := by
    rw [Int.le_ediv_iff_mul_le (by omega)]; omega
  have b : 340282366920938463463374607431768211455 / nrm y < 36893488147419103232 := Int.ediv_lt_of_lt_mul (by omega) (by omega)
  omega
/-- the estimate and what is left, in words -/
theorem estimate (U m x1 x0 : Int) (hU : 9223372036854775808 ≤ U) (hU1 : U < 18446744073709551616) (hm : m = 340282366920938463463374607431768211455 / U - 18446744073709551616) (hm0 : 0 ≤ m)
    (h0 : 0 ≤ x1) (h1 : x1 < U) (g0 : 0 ≤ x0) (g1 : x0 < 18446744073709551616) :
    ∃ Q N : Int, 0 ≤ Q ∧ Q < 18446744073709551616 ∧ 0 ≤ N ∧ N < 18446744073709551616 + U ∧ x1 * 18446744073709551616 + x0 = Q * U + N ∧
      lo (hi (m * x1) + x1 + hi (lo (m * x1) + x0)) = Q ∧
      sb x1 (hi (U * Q)) (bw x0 (lo (U * Q)) 0) = N / 18446744073709551616 ∧ sb x0 (lo (U * Q)) 0 = N % 18446744073709551616 := by
  obtain ⟨n0, n1⟩ := by_reciprocal 18446744073709551616 U (m + 18446744073709551616) x1 x0 ((x1 * (m + 18446744073709551616) + x0) / 18446744073709551616) (by omega) hU1 (by rw [hm, show (18446744073709551616 : Int) * 18446744073709551616 - 1 = 340282366920938463463374607431768211455 from rfl]; omega) h0 h1 g0 g1 rfl
  have e : x1 * (m + 18446744073709551616) = m * x1 + x1 * 18446744073709551616 := by grind
  rw [e] at n0 n1
  have p0 : 0 ≤ m * x1 := Int.mul_nonneg hm0 h0
  generalize hQ : (m * x1 + x1 * 18446744073709551616 + x0) / 18446744073709551616 = Q at *
  have q0 : 0 ≤ Q := by omega
  have q1 : Q < 18446744073709551616 := by
    refine Int.lt_of_mul_lt_mul_right (a := U) ?_ (by omega)
    have : (x1 + 1) * 18446744073709551616 ≤ U * 18446744073709551616 := Int.mul_le_mul_of_nonneg_right (by omega) (by omega)
    have e2 : U * 18446744073709551616 = 18446744073709551616 * U := Int.mul_comm _ _
    omega
  have e3 : U * Q = Q * U := Int.mul_comm _ _
  refine ⟨Q, x1 * 18446744073709551616 + x0 - Q * U, q0, q1, n0, n1, by omega, ?_, ?_, ?_⟩
  · unfold lo hi
    generalize m * x1 = t at *
    omega
  · rw [e3]
    have : 0 ≤ Q * U := Int.mul_nonneg q0 (by omega)
    generalize Q * U = t at *
    unfold sb bw lo hi
    split <;> omega
  · rw [e3]
    have : 0 ≤ Q * U := Int.mul_nonneg q0 (by omega)
    generalize Q * U = t at *
    unfold sb lo
    omega
end Go.Dv
namespace Go.Proofs.YtjejffijhlppmaaGreatDoor
open Go.Dv Go.RowKit
set_option linter.unusedVariables false
theorem mul_any (x y : Int) (hx : 0 ≤ x) (hx1 : x < 18446744073709551616) (hy : 0 ≤ y) (hy1 : y < 18446744073709551616) (w : World) :
    Calls Tryz.prog 122 #[.int .u64 x, .int .u64 y] w fun e w' => e = .returned (.tuple #[.int .u64 (hi (x * y)), .int .u64 (lo (x * y))]) ∧ w = w' := by
  obtain ⟨x, rfl⟩ := Int.eq_ofNat_of_zero_le hx
  obtain ⟨y, rfl⟩ := Int.eq_ofNat_of_zero_le hy
  refine (Tryz.bits_Mul x y (by omega) (by omega) w).mono ?_
  rintro e w' ⟨rfl, rfl⟩
  exact ⟨rfl, rfl⟩

theorem nlz_any (y : Int) (h0 : 0 < y) (h1 : y < 18446744073709551616) (w : World) :
    Calls Tryz.prog 103 #[.int .u64 y] w fun e w' => e = .returned (.int .u64 (nz y)) ∧ w = w' := by
  obtain ⟨n0, n1⟩ := nz_range y h0 h1
  have hz : 64 - (Lib.bitLen y.toNat : Int) = nz y := rfl
  go_enter Tryz.func103, Tryz.ntmps103
  go_wp2_with (first | (go_at_call 113; refine (Tryz.bits_LeadingZeros y _ (by omega) (by omega)).mono ?_; rintro e w' ⟨rfl, rfl⟩; rw [hz]))
  go_ret
  exact ⟨rfl, rfl⟩

set_option maxHeartbeats 1000000 in
theorem reciprocalWord_any (y : Int) (h0 : 0 < y) (h1 : y < 18446744073709551616) (w : World) :
    Calls Tryz.prog 109 #[.int .u64 y] w fun e w' => e = .returned (.int .u64 (rcp y)) ∧ ∃ k, w.drewN k = w' := by
  obtain ⟨n0, n1⟩ := nz_range y h0 h1
  obtain ⟨r0, r1⟩ := nrm_range y h0 h1
  have hw : IntKind.u64.wrap (y * 2 ^ (nz y).toNat) = nrm y := wraps_u64 _ (by change 0 ≤ nrm y; omega) (by change nrm y < _; omega)
  obtain ⟨U, hU⟩ : ∃ v, nrm y = v := ⟨_, rfl⟩
  have HR : Hid (rcp y = 340282366920938463463374607431768211455 / U - 18446744073709551616) := by unfold rcp; rw [hU]; exact Lib.hid rfl
  rw [hU] at hw r0 r1
  clear hU
  have hx := u64_not U (by omega) r1
  have hsg : ¬ (IntKind.u64.signed = true) := by decide
  have hre : (18446744073709551615 - U) * 18446744073709551616 + 18446744073709551615 = 340282366920938463463374607431768211455 + U * -18446744073709551616 := by omega
  have hre2 : ((18446744073709551615 - U) * 18446744073709551616 + 18446744073709551615) / U = 340282366920938463463374607431768211455 / U - 18446744073709551616 := by rw [hre, Int.add_mul_ediv_left _ _ (by omega)]; omega
  have HE := Lib.hid hre2
  clear hre hre2
  go_enter Tryz.func109, Tryz.ntmps109
  by_cases hU0 : U = 18446744073709551615
  · subst hU0
    have hx' : bits .xor .u64 IntKind.u64.max 18446744073709551615 = 0 := hx
    clear hx HE
    have HR' : Hid (rcp y = 1) := Lib.hid (by rw [HR.out]; rfl)
    clear HR
    go_wp2_with (first | (go_at_call 103; refine (nlz_any y h0 h1 _).mono ?_; rintro e w' ⟨rfl, rfl⟩) | (go_at_call 108; refine (bitsDiv_zero _ _ (by omega) (by omega) (by omega) (by omega) _).mono ?_; rintro e w' ⟨rfl, k, rfl⟩; rw [show (18446744073709551615 : Int) / 18446744073709551615 = 1 from rfl, ← HR'.out]))
    go_ret
    exact ⟨rfl, _, rfl⟩
  · go_wp2_with (first | (go_at_call 103; refine (nlz_any y h0 h1 _).mono ?_; rintro e w' ⟨rfl, rfl⟩) | (go_at_call 108; refine (bitsDiv_top _ _ U (by omega) (by omega) (by omega) (by omega) r0 r1 _).mono ?_; rintro e w' ⟨rfl, rfl⟩; rw [HE.out, ← HR.out]))
    go_ret
    exact ⟨rfl, 0, rfl⟩

set_option maxHeartbeats 4000000 in
theorem divWW_any (x1 x0 y : Int) (h0 : 0 ≤ x1) (h1 : x1 < y) (g0 : 0 ≤ x0) (g1 : x0 < 18446744073709551616) (hy0 : 0 < y) (hy : y < 18446744073709551616) (w : World) :
    Calls Tryz.prog 110 #[.int .u64 x1, .int .u64 x0, .int .u64 y, .int .u64 (rcp y)] w fun e w' =>
      e = .returned (.tuple #[.int .u64 ((x1 * 18446744073709551616 + x0) / y), .int .u64 ((x1 * 18446744073709551616 + x0) % y)]) ∧ w = w' := by
  obtain ⟨n0, n1⟩ := nz_range y hy0 hy
  obtain ⟨r0, r1⟩ := nrm_range y hy0 hy
  obtain ⟨m0, m1⟩ := rcp_range y hy0 hy
  obtain ⟨X1, X0, hX, a0, a1, b0, b1, f1, f2, f3, hz⟩ := moved x1 x0 y h0 h1 g0 g1 hy0 hy
  have hp := up_pos y
  have hu : up y = 2 ^ (nz y).toNat := rfl
  obtain ⟨A, hA⟩ : ∃ v, (x1 * 18446744073709551616 + x0) / y = v := ⟨_, rfl⟩
  obtain ⟨C, hC⟩ : ∃ v, (x1 * 18446744073709551616 + x0) % y = v := ⟨_, rfl⟩
  have hA' : (X1 * 18446744073709551616 + X0) / nrm y = A := by
    rw [hX, ← hA]; unfold nrm; exact Int.mul_ediv_mul_of_pos_left _ _ hp
  obtain ⟨R, hR⟩ : ∃ v, (X1 * 18446744073709551616 + X0) % nrm y = v := ⟨_, rfl⟩
  have hRC : R / 2 ^ (nz y).toNat = C := by
    rw [← hR, hX]; unfold nrm
    rw [Int.mul_comm _ (up y), Int.mul_comm y, Int.mul_emod_mul_of_pos _ _ hp, hC, ← hu]
    exact Int.mul_ediv_cancel_left _ (by omega)
  have hR0 : 0 ≤ R := by rw [← hR]; exact Int.emod_nonneg _ (by omega)
  have hR1 : R < nrm y := by rw [← hR]; exact Int.emod_lt_of_pos _ (by omega)
  have hc := Int.emod_add_mul_ediv (X1 * 18446744073709551616 + X0) (nrm y)
  rw [hA', hR] at hc
  obtain ⟨U, hU⟩ : ∃ v, nrm y = v := ⟨_, rfl⟩
  obtain ⟨m, hm⟩ : ∃ v, rcp y = v := ⟨_, rfl⟩
  have hm' : m = 340282366920938463463374607431768211455 / U - 18446744073709551616 := by rw [← hm, ← hU]; rfl
  rw [hm] at m0 m1 ⊢
  rw [hU] at r0 r1 a1 f3 hR1 hc hz
  obtain ⟨Q, N, q0, q1, n2, n3, e1, hQ, e2, e3⟩ := estimate U m X1 X0 r0 r1 hm' m0 a0 a1 b0 b1
  have hcase : (A = Q ∧ N = R) ∨ (A = Q + 1 ∧ N = R + U) ∨ (A = Q + 2 ∧ N = R + 2 * U) := by
    obtain ⟨D, hD⟩ : ∃ D, A = Q + D := ⟨A - Q, by omega⟩
    have hN : N = R + U * D := by rw [hD] at hc; rw [← hc] at e1; grind
    by_cases hd : D ≤ -1
    · have : U * D ≤ U * (-1) := Int.mul_le_mul_of_nonneg_left hd (by omega)
      omega
    · by_cases hd2 : 3 ≤ D
      · have : U * 3 ≤ U * D := Int.mul_le_mul_of_nonneg_left hd2 (by omega)
        omega
      · rcases (by omega : D = 0 ∨ D = 1 ∨ D = 2) with rfl | rfl | rfl <;> omega
  have hA0 : A < 18446744073709551616 := by
    rw [← hA]; exact Int.ediv_lt_of_lt_mul hy0 (by omega)
  have p0 : 0 ≤ m * X1 := Int.mul_nonneg m0 a0
  have p1 : 0 ≤ U * Q := Int.mul_nonneg (by omega) q0
  have l0 := lo_range (m * X1)
  have l1 := lo_range (U * Q)
  have k0 : 0 ≤ hi (m * X1) := Int.ediv_nonneg p0 (by omega)
  have k1 : 0 ≤ hi (U * Q) := Int.ediv_nonneg p1 (by omega)
  have k2 : hi (U * Q) < 18446744073709551616 := by
    refine Int.ediv_lt_of_lt_mul (by omega) ?_
    have : U * Q ≤ 18446744073709551616 * Q := Int.mul_le_mul_of_nonneg_right (by omega) q0
    omega
  have k3 : 0 ≤ hi (lo (m * X1) + X0) ∧ hi (lo (m * X1) + X0) ≤ 1 := by
    generalize lo (m * X1) = t at *
    unfold hi; omega
  have k4 : 0 ≤ bw X0 (lo (U * Q)) 0 ∧ bw X0 (lo (U * Q)) 0 ≤ 1 := by unfold bw; split <;> omega
  have HA := Lib.hid hA
  have HC := Lib.hid hC
  clear p0 p1 hA hC hX hA' hR hc hm' e1 hp hu hU hm
  rw [HA.out, HC.out]
  rcases hcase with ⟨c1, c2⟩ | ⟨c1, c2⟩ | ⟨c1, c2⟩
  · have w1 : N / 18446744073709551616 = 0 := by omega
    have w2 : N % 18446744073709551616 = R := by omega
    rw [w1] at e2
    rw [w2] at e3
    subst c1
    clear w1 w2 c2 n2 n3
    by_cases hs : nz y = 0
    · obtain ⟨z1, z2, z3⟩ := hz hs
      have hRC' : R = C := by rw [hs] at hRC; simpa using hRC
      subst z1 z2 z3
      have HS := Lib.hid hRC'
      clear f1 f2 f3 hz hRC hRC'
      go_enter Tryz.func110, Tryz.ntmps110
      go_wp2_with (first | (go_at_call 103; refine (nlz_any _ hy0 hy _).mono ?_; rintro e w' ⟨rfl, rfl⟩) | (go_at_call 122; refine (mul_any _ _ (by omega) (by omega) (by omega) (by omega) _).mono ?_; rintro e w' ⟨rfl, rfl⟩) | (go_at_call 88; refine (add_any _ _ _ (by omega) (by omega) (by omega) (by omega) _).mono ?_; rintro e w' ⟨rfl, rfl⟩) | (go_at_call 90; refine (sub_any _ _ _ (by omega) (by omega) (by omega) (by omega) (by omega) (by omega) _).mono ?_; rintro e w' ⟨rfl, rfl⟩))
      go_ret2
      exact ⟨by rw [← HS.out]; rfl, rfl⟩
    · clear hz
      go_enter Tryz.func110, Tryz.ntmps110
      go_wp2_with (first | (go_at_call 103; refine (nlz_any _ hy0 hy _).mono ?_; rintro e w' ⟨rfl, rfl⟩) | (go_at_call 122; refine (mul_any _ _ (by omega) (by omega) (by omega) (by omega) _).mono ?_; rintro e w' ⟨rfl, rfl⟩) | (go_at_call 88; refine (add_any _ _ _ (by omega) (by omega) (by omega) (by omega) _).mono ?_; rintro e w' ⟨rfl, rfl⟩) | (go_at_call 90; refine (sub_any _ _ _ (by omega) (by omega) (by omega) (by omega) (by omega) (by omega) _).mono ?_; rintro e w' ⟨rfl, rfl⟩))
      go_ret2
      exact ⟨rfl, rfl⟩
  · by_cases hov : N < 18446744073709551616
    · have w1 : N / 18446744073709551616 = 0 := by omega
      have w2 : N % 18446744073709551616 = N := by omega
      have w3 : N - U = R := by omega
      have w4 : U ≤ N := by omega
      rw [w1] at e2
      rw [w2] at e3
      subst c1
      clear w1 w2 c2 n3
      by_cases hs : nz y = 0
      · obtain ⟨z1, z2, z3⟩ := hz hs
        have hRC' : R = C := by rw [hs] at hRC; simpa using hRC
        subst z1 z2 z3
        have HS := Lib.hid hRC'
        clear f1 f2 f3 hz hRC hRC'
        go_enter Tryz.func110, Tryz.ntmps110
        go_wp2_with (first | (go_at_call 103; refine (nlz_any _ hy0 hy _).mono ?_; rintro e w' ⟨rfl, rfl⟩) | (go_at_call 122; refine (mul_any _ _ (by omega) (by omega) (by omega) (by omega) _).mono ?_; rintro e w' ⟨rfl, rfl⟩) | (go_at_call 88; refine (add_any _ _ _ (by omega) (by omega) (by omega) (by omega) _).mono ?_; rintro e w' ⟨rfl, rfl⟩) | (go_at_call 90; refine (sub_any _ _ _ (by omega) (by omega) (by omega) (by omega) (by omega) (by omega) _).mono ?_; rintro e w' ⟨rfl, rfl⟩))
        go_ret2
        exact ⟨by rw [← HS.out]; rfl, rfl⟩
      · clear hz
        go_enter Tryz.func110, Tryz.ntmps110
        go_wp2_with (first | (go_at_call 103; refine (nlz_any _ hy0 hy _).mono ?_; rintro e w' ⟨rfl, rfl⟩) | (go_at_call 122; refine (mul_any _ _ (by omega) (by omega) (by omega) (by omega) _).mono ?_; rintro e w' ⟨rfl, rfl⟩) | (go_at_call 88; refine (add_any _ _ _ (by omega) (by omega) (by omega) (by omega) _).mono ?_; rintro e w' ⟨rfl, rfl⟩) | (go_at_call 90; refine (sub_any _ _ _ (by omega) (by omega) (by omega) (by omega) (by omega) (by omega) _).mono ?_; rintro e w' ⟨rfl, rfl⟩))
        go_ret2
        exact ⟨rfl, rfl⟩
    · have w1 : N / 18446744073709551616 = 1 := by omega
      obtain ⟨M, hM⟩ : ∃ v, N % 18446744073709551616 = v := ⟨_, rfl⟩
      have w3 : IntKind.u64.wrap (M - U) = R := by rw [IntKind.wrap_u64]; omega
      have w4 : R < U := hR1
      rw [w1] at e2
      rw [hM] at e3
      subst c1
      clear w1 hM c2 n2 n3 hov
      by_cases hs : nz y = 0
      · obtain ⟨z1, z2, z3⟩ := hz hs
        have hRC' : R = C := by rw [hs] at hRC; simpa using hRC
        subst z1 z2 z3
        have HS := Lib.hid hRC'
        clear f1 f2 f3 hz hRC hRC'
        go_enter Tryz.func110, Tryz.ntmps110
        go_wp2_with (first | (go_at_call 103; refine (nlz_any _ hy0 hy _).mono ?_; rintro e w' ⟨rfl, rfl⟩) | (go_at_call 122; refine (mul_any _ _ (by omega) (by omega) (by omega) (by omega) _).mono ?_; rintro e w' ⟨rfl, rfl⟩) | (go_at_call 88; refine (add_any _ _ _ (by omega) (by omega) (by omega) (by omega) _).mono ?_; rintro e w' ⟨rfl, rfl⟩) | (go_at_call 90; refine (sub_any _ _ _ (by omega) (by omega) (by omega) (by omega) (by omega) (by omega) _).mono ?_; rintro e w' ⟨rfl, rfl⟩))
        go_ret2
        exact ⟨by rw [← HS.out]; rfl, rfl⟩
      · clear hz
        go_enter Tryz.func110, Tryz.ntmps110
        go_wp2_with (first | (go_at_call 103; refine (nlz_any _ hy0 hy _).mono ?_; rintro e w' ⟨rfl, rfl⟩) | (go_at_call 122; refine (mul_any _ _ (by omega) (by omega) (by omega) (by omega) _).mono ?_; rintro e w' ⟨rfl, rfl⟩) | (go_at_call 88; refine (add_any _ _ _ (by omega) (by omega) (by omega) (by omega) _).mono ?_; rintro e w' ⟨rfl, rfl⟩) | (go_at_call 90; refine (sub_any _ _ _ (by omega) (by omega) (by omega) (by omega) (by omega) (by omega) _).mono ?_; rintro e w' ⟨rfl, rfl⟩))
        go_ret2
        exact ⟨rfl, rfl⟩
  · have hov : 18446744073709551616 ≤ N := by omega
    have w1 : N / 18446744073709551616 = 1 := by omega
    obtain ⟨M, hM⟩ : ∃ v, N % 18446744073709551616 = v := ⟨_, rfl⟩
    obtain ⟨M1, hM1⟩ : ∃ v, R + U = v := ⟨_, rfl⟩
    have w3 : IntKind.u64.wrap (M - U) = M1 := by rw [IntKind.wrap_u64]; omega
    have w4 : U ≤ M1 := by omega
    have w5 : M1 - U = R := by omega
    have w6 : Q + 1 + 1 = A := by omega
    have w7 : M1 < 18446744073709551616 := by omega
    rw [w1] at e2
    rw [hM] at e3
    clear w1 hM c1 c2 n2 n3 hov hM1
    by_cases hs : nz y = 0
    · obtain ⟨z1, z2, z3⟩ := hz hs
      have hRC' : R = C := by rw [hs] at hRC; simpa using hRC
      subst z1 z2 z3
      have HS := Lib.hid hRC'
      clear f1 f2 f3 hz hRC hRC'
      go_enter Tryz.func110, Tryz.ntmps110
      go_wp2_with (first | (go_at_call 103; refine (nlz_any _ hy0 hy _).mono ?_; rintro e w' ⟨rfl, rfl⟩) | (go_at_call 122; refine (mul_any _ _ (by omega) (by omega) (by omega) (by omega) _).mono ?_; rintro e w' ⟨rfl, rfl⟩) | (go_at_call 88; refine (add_any _ _ _ (by omega) (by omega) (by omega) (by omega) _).mono ?_; rintro e w' ⟨rfl, rfl⟩) | (go_at_call 90; refine (sub_any _ _ _ (by omega) (by omega) (by omega) (by omega) (by omega) (by omega) _).mono ?_; rintro e w' ⟨rfl, rfl⟩))
      go_ret2
      exact ⟨by rw [← HS.out]; rfl, rfl⟩
    · clear hz
      go_enter Tryz.func110, Tryz.ntmps110
      go_wp2_with (first | (go_at_call 103; refine (nlz_any _ hy0 hy _).mono ?_; rintro e w' ⟨rfl, rfl⟩) | (go_at_call 122; refine (mul_any _ _ (by omega) (by omega) (by omega) (by omega) _).mono ?_; rintro e w' ⟨rfl, rfl⟩) | (go_at_call 88; refine (add_any _ _ _ (by omega) (by omega) (by omega) (by omega) _).mono ?_; rintro e w' ⟨rfl, rfl⟩) | (go_at_call 90; refine (sub_any _ _ _ (by omega) (by omega) (by omega) (by omega) (by omega) (by omega) _).mono ?_; rintro e w' ⟨rfl, rfl⟩))
      go_ret2
      exact ⟨rfl, rfl⟩
end Go.Proofs.YtjejffijhlppmaaGreatDoor
