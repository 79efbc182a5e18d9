/-
  The plain laws of the questions whether a division or a test is turned.
-/
import Derived.Test.YtjejffijhlppmaaGreatDoorDvW
namespace Go.Dv
set_option linter.unusedVariables false
open Go.RowKit

theorem wrap64_mod (c : Int) : wrap64 c % 18446744073709551616 = c % 18446744073709551616 := by
  unfold wrap64; omega
theorem emod_pw {n : Int} (hn : isW n) {a b : Int} (h : a % 18446744073709551616 = b % 18446744073709551616) : a % pw n = b % pw n := by
  have hp := pw_cases hn
  rcases hp with ⟨_, e⟩ | ⟨_, e⟩ | ⟨_, e⟩ | ⟨_, e⟩ <;> rw [e] <;> omega
theorem umOK_wrap {n : Int} (hn : isW n) (c : Int) : umOK n (wrap64 c) = umOK n c := by
  unfold umOK; rw [emod_pw hn (wrap64_mod c)]
theorem low_range {n : Int} (hn : isW n) (x : Int) : 0 ≤ x % pw n ∧ x % pw n < pw n ∧ pw n ≤ 18446744073709551616 := by
  have hp := pw_cases hn
  rcases hp with ⟨_, e⟩ | ⟨_, e⟩ | ⟨_, e⟩ | ⟨_, e⟩ <;> rw [e] <;> omega

theorem unsignedOK_law {n : Int} (hn : isW n) (x : Int) (h0 : 0 ≤ x) (h1 : x ≤ 18446744073709551615) :
    (umOK n (wrap64 (bits .and .u64 x (msk n))) == (bits .and .u64 x (msk n) != 0 && !powW (bits .and .u64 x (msk n)))) = true := by
  rw [umOK_wrap hn, and_msk hn x h0 (by omega)]
  obtain ⟨a, b, d⟩ := low_range hn x
  rw [powW_eq _ a (by omega)]
  unfold umOK powB
  rw [Int.emod_emod_of_dvd _ (Int.dvd_refl _)]
  by_cases hz : x % pw n = 0
  · rw [hz]; decide
  · have : (x % pw n == 0) = false := by simpa using hz
    unfold bne; rw [this]; simp
theorem unsignedOK_zero {n : Int} (hn : isW n) : (!umOK n (wrap64 0)) = true := by
  rw [umOK_wrap hn]; unfold umOK; simp [pt_zero]
theorem sgn_range {n : Int} (hn : isW n) (x : Int) : -(pw n / 2) ≤ sgn n x ∧ sgn n x < pw n / 2 ∧ sgn n x % pw n = x % pw n ∧ 2 * (pw n / 2) = pw n ∧ pw n ≤ 18446744073709551616 := by
  rw [sgn_eq hn]
  have hp := pw_cases hn
  rcases hp with ⟨_, e⟩ | ⟨_, e⟩ | ⟨_, e⟩ | ⟨_, e⟩ <;> rw [e] <;> split <;> omega
theorem sgn_lt {n : Int} (hn : isW n) (x : Int) : sgn n x < 9223372036854775808 := by
  have := sgn_range hn x; omega
theorem sgn_ge {n : Int} (hn : isW n) (x : Int) : -9223372036854775808 ≤ sgn n x := by
  have := sgn_range hn x; omega
theorem powW_of_pos (d : Int) (h : 0 < d) (h1 : d < 9223372036854775808) : powW (IntKind.u64.wrap d) = !pt d.toNat := by
  rw [IntKind.wrap_u64, Int.emod_eq_of_lt (by omega) (by omega), powW_eq d (by omega) (by omega)]
  unfold powB
  have : (d == 0) = false := by simp; omega
  rw [this]; rfl
theorem smOK_law (d : Int) (h1 : d < 9223372036854775808) : smOK d = (decide (0 < d) && !powW (IntKind.u64.wrap d)) := by
  by_cases h : 0 < d
  · rw [powW_of_pos d h h1]; unfold smOK
    have : decide (d < 0) = false := by simp; omega
    rw [this]; simp [h]
  · by_cases h0 : d = 0
    · subst h0; decide
    · have e : decide (d < 0) = true := by simp; omega
      have e' : decide (0 < d) = false := by simp; omega
      unfold smOK; rw [e, e']; rfl
theorem powW_pos (d : Int) (h : 0 < d) (h1 : d < 9223372036854775808) : powW d = !pt d.toNat := by
  have := powW_of_pos d h h1
  rwa [IntKind.wrap_u64, Int.emod_eq_of_lt (by omega) (by omega)] at this
theorem smOK_pos (d : Int) (h : 0 < d) (h1 : d < 9223372036854775808) : (smOK d == !powW d) = true := by
  rw [powW_pos d h h1]; unfold smOK
  have : decide (d < 0) = false := by simp; omega
  rw [this]; simp
theorem smOK_neg (d : Int) (h : d ≤ 0) : (!smOK d) = true := by
  by_cases h0 : d = 0
  · subst h0; decide
  · have e : decide (d < 0) = true := by simp; omega
    unfold smOK; rw [e]; rfl
/-- no test where c is 0 or a power of two -/
theorem tests_unsigned {n : Int} (hn : isW n) (x : Int) (h0 : 0 ≤ x) (h1 : x ≤ 18446744073709551615) :
    (umOK n (wrap64 (bits .and .u64 x (msk n))) = true ∧ (bits .and .u64 x (msk n) == 0) = false ∧ powW (bits .and .u64 x (msk n)) = false) ∨
    (umOK n (wrap64 (bits .and .u64 x (msk n))) = false ∧ (bits .and .u64 (bits .and .u64 x (msk n)) 1 == 0) = true) ∨
    (umOK n (wrap64 (bits .and .u64 x (msk n))) = false ∧ (bits .and .u64 (bits .and .u64 x (msk n)) 1 == 0) = false ∧ decide (bits .and .u64 x (msk n) < 3) = true) := by
  have e1 := and_msk hn x h0 (by omega)
  obtain ⟨a, b, d⟩ := low_range hn x
  have e2 : umOK n (wrap64 (x % pw n)) = pt (x % pw n).toNat := by
    rw [umOK_wrap hn]; unfold umOK; rw [Int.emod_emod_of_dvd _ (Int.dvd_refl _)]
  have e3 := powW_eq (x % pw n) a (by omega)
  rw [e1]
  generalize x % pw n = c at *
  have e4 : bits .and .u64 c 1 = c % 2 := by
    rw [u64_and c 1 a (by omega) (by omega) (by omega)]
    have : c.toNat &&& (1 : Int).toNat = c.toNat % 2 := Nat.and_two_pow_sub_one_eq_mod c.toNat 1
    rw [this]; omega
  rw [e2, e3, e4]
  cases hU : pt c.toNat with
  | true =>
    refine Or.inl ⟨rfl, ?_, ?_⟩
    · by_cases h : c = 0
      · rw [h] at hU; exact absurd hU (by decide)
      · simpa using h
    · unfold powB; rw [hU]; simp
  | false =>
    refine Or.inr ?_
    by_cases h : c % 2 = 0
    · exact Or.inl ⟨rfl, by simpa using h⟩
    · refine Or.inr ⟨rfl, by simpa using h, ?_⟩
      have h2 : c % 2 = 1 := by omega
      have : pt c.toNat = true ∨ c < 3 := by
        by_cases h3 : c < 3
        · exact Or.inr h3
        · refine Or.inl ?_
          obtain ⟨m, hm⟩ : ∃ m : Nat, c.toNat = 2 * m + 1 := ⟨c.toNat / 2, by omega⟩
          have hm1 : 1 ≤ m := by omega
          unfold pt
          rw [hm, show 2 * m + 1 - 1 = 2 * m from by omega]
          have e : (2 * m + 1) &&& (2 * m) = 2 * m := by
            apply Nat.eq_of_testBit_eq
            intro i
            rw [Nat.testBit_and]
            rcases i with _ | i
            · simp [Nat.testBit_zero]
            · rw [Nat.testBit_succ, Nat.testBit_succ]
              rw [show (2 * m + 1) / 2 = m from by omega, show 2 * m / 2 = m from by omega]; simp
          rw [e]; simp; omega
      rcases this with h3 | h3
      · rw [hU] at h3; exact absurd h3 (by decide)
      · simpa using h3
theorem tests_signed (d : Int) (h0 : -9223372036854775808 ≤ d) (h1 : d < 9223372036854775808) :
    (smOK d = true ∧ decide (d ≤ 0) = false ∧ powW (IntKind.u64.wrap d) = false) ∨
    (smOK d = false ∧ (bits .and .i64 d 1 == 0) = true) ∨
    (smOK d = false ∧ (bits .and .i64 d 1 == 0) = false ∧ decide (d < 3) = true) := by
  cases hS : smOK d with
  | true =>
    have hp : 0 < d := by
      by_cases h : 0 < d
      · exact h
      · have := smOK_neg d (by omega); rw [hS] at this; exact absurd this (by decide)
    refine Or.inl ⟨rfl, by simpa using hp, ?_⟩
    have := smOK_pos d hp h1
    rw [IntKind.wrap_u64, Int.emod_eq_of_lt (by omega) (by omega)]
    rw [hS] at this; simpa using this
  | false =>
    refine Or.inr ?_
    cases hb : (bits .and .i64 d 1 == 0) with
    | true => exact Or.inl ⟨rfl, rfl⟩
    | false =>
      refine Or.inr ⟨rfl, rfl, ?_⟩
      by_cases h3 : d < 3
      · simpa using h3
      · exfalso
        have t := tests_unsigned (n := 64) (Or.inr (Or.inr (Or.inr rfl))) d (by omega) (by omega)
        have e1 : bits .and .u64 d (msk 64) = d := by
          rw [and_msk (Or.inr (Or.inr (Or.inr rfl))) d (by omega) (by omega)]
          exact Int.emod_eq_of_lt (by omega) (show d < 18446744073709551616 by omega)
        have e2 : wrap64 d = d := IntWalk.wrap64_in d ⟨by omega, by omega⟩
        rw [e1, e2] at t
        have e3 : umOK 64 d = pt d.toNat := by
          unfold umOK
          rw [show d % pw 64 = d from Int.emod_eq_of_lt (by omega) (show d < 18446744073709551616 by omega)]
        have e4 : smOK d = pt d.toNat := by
          unfold smOK
          have : decide (d < 0) = false := by simp; omega
          rw [this]; rfl
        have e5 : bits .and .i64 d 1 = bits .and .u64 d 1 := by
          have f : bits .and .u64 d 1 = d % 2 := by
            rw [u64_and d 1 (by omega) (by omega) (by omega) (by omega)]
            have : d.toNat &&& (1 : Int).toNat = d.toNat % 2 := Nat.and_two_pow_sub_one_eq_mod d.toNat 1
            rw [this]; omega
          rw [f]
          show IntKind.i64.wrap ((BitVec.ofInt 64 d &&& BitVec.ofInt 64 1).toNat : Int) = d % 2
          rw [BitVec.toNat_and, ofInt_toNat, ofInt_toNat]
          have g1 : d % 2 ^ 64 = d := Int.emod_eq_of_lt (by omega) (show d < 18446744073709551616 by omega)
          have g2 : ((1 : Int) % 2 ^ 64).toNat = 1 := by decide
          rw [g1, g2]
          have g3 : d.toNat &&& 1 = d.toNat % 2 := Nat.and_two_pow_sub_one_eq_mod d.toNat 1
          rw [g3, IntWalk.i64_left, IntWalk.wrap64_in _ ⟨by omega, by omega⟩]; omega
        rw [e3] at t
        rw [e4] at hS
        rw [e5] at hb
        rw [hS, hb] at t
        rcases t with ⟨t, _⟩ | ⟨_, t⟩ | ⟨_, _, t⟩
        · exact absurd t (by decide)
        · exact absurd t (by decide)
        · simp at t; omega
theorem umOK_three : umOK 64 3 = true := by decide
theorem smOK_three : smOK 3 = true := by decide
theorem wrap_i8_range (c : Int) : -128 ≤ IntKind.i8.wrap c ∧ IntKind.i8.wrap c ≤ 127 := by
  simp only [IntKind.wrap, IntKind.bits, IntKind.signed]; simp; split <;> omega
theorem wrap_i16_range (c : Int) : -32768 ≤ IntKind.i16.wrap c ∧ IntKind.i16.wrap c ≤ 32767 := by
  simp only [IntKind.wrap, IntKind.bits, IntKind.signed]; simp; split <;> omega
theorem wrap_i32_range (c : Int) : -2147483648 ≤ wrap32 c ∧ wrap32 c ≤ 2147483647 := by
  unfold wrap32; omega
theorem wrap64_range (c : Int) : -9223372036854775808 ≤ wrap64 c ∧ wrap64 c ≤ 9223372036854775807 := by
  unfold wrap64; omega
end Go.Dv
