/-
  Plain facts on the model's integers (wrap, bits, shifts of the four widths), no program in sight.
-/
import Derived.WalkKit
import Derived.Lib.Hide
import Derived.Test.YtjejffijhlppmaaGreatDoorDvA
namespace Go.Dv
open Go.RowKit

def isW (n : Int) : Prop := n = 8 ∨ n = 16 ∨ n = 32 ∨ n = 64

/-- spec.Width -/
def wid (a : Int) : Int := 8 * 2 ^ (bits .and .u8 a 3).toNat
theorem and3 (a : Int) (h0 : 0 ≤ a) (h1 : a ≤ 255) : bits .and .u8 a 3 = a % 4 := by
  rw [u8_and a 3 h0 (by omega) (by omega) (by omega)]
  have : a.toNat &&& (3 : Int).toNat = a.toNat % 4 := by
    show a.toNat &&& (2 ^ 2 - 1) = a.toNat % 2 ^ 2
    exact Nat.and_two_pow_sub_one_eq_mod _ _
  rw [this]; omega
theorem isW_wid (a : Int) (h0 : 0 ≤ a) (h1 : a ≤ 255) : isW (wid a) := by
  unfold wid isW
  rw [and3 a h0 h1]
  have h : a % 4 = 0 ∨ a % 4 = 1 ∨ a % 4 = 2 ∨ a % 4 = 3 := by omega
  rcases h with h | h | h | h <;> rw [h] <;> decide

/-- 2 to the power of n -/
def pw (n : Int) : Int := 2 ^ n.toNat
/-- spec.Mask -/
def msk (n : Int) : Int := 18446744073709551615 / 2 ^ (64 - n).toNat
/-- the last n bits, as the code cuts them -/
def low (n c : Int) : Int := IntKind.u64.wrap (IntKind.u64.wrap c * 2 ^ (64 - n).toNat) / 2 ^ (64 - n).toNat
/-- spec.Signed -/
def sgn (n x : Int) : Int := IntKind.i64.wrap (IntKind.u64.wrap (x * 2 ^ (64 - n).toNat)) / 2 ^ (64 - n).toNat
/-- no power of two and not 0 -/
def pt (u : Nat) : Bool := (u &&& (u - 1)) != 0

theorem isW_range {n : Int} (h : isW n) : 8 ≤ n ∧ n ≤ 64 := by unfold isW at h; omega

theorem msk_pw {n : Int} (h : isW n) : msk n = pw n - 1 := by
  rcases h with rfl | rfl | rfl | rfl <;> decide
theorem pw_cases {n : Int} (h : isW n) : (n = 8 ∧ pw n = 256) ∨ (n = 16 ∧ pw n = 65536) ∨ (n = 32 ∧ pw n = 4294967296) ∨ (n = 64 ∧ pw n = 18446744073709551616) := by
  rcases h with rfl | rfl | rfl | rfl
  · exact Or.inl ⟨rfl, by decide⟩
  · exact Or.inr (Or.inl ⟨rfl, by decide⟩)
  · exact Or.inr (Or.inr (Or.inl ⟨rfl, by decide⟩))
  · exact Or.inr (Or.inr (Or.inr ⟨rfl, by decide⟩))

theorem low_eq {n : Int} (h : isW n) (c : Int) : low n c = c % pw n := by
  unfold low
  rw [IntKind.wrap_u64, IntKind.wrap_u64]
  rcases h with rfl | rfl | rfl | rfl
  · show c % 18446744073709551616 * 72057594037927936 % 18446744073709551616 / 72057594037927936 = c % 256
    omega
  · show c % 18446744073709551616 * 281474976710656 % 18446744073709551616 / 281474976710656 = c % 65536
    omega
  · show c % 18446744073709551616 * 4294967296 % 18446744073709551616 / 4294967296 = c % 4294967296
    omega
  · show c % 18446744073709551616 * 1 % 18446744073709551616 / 1 = c % 18446744073709551616
    omega

theorem sgn_eq {n : Int} (h : isW n) (x : Int) : sgn n x = if x % pw n < pw n / 2 then x % pw n else x % pw n - pw n := by
  unfold sgn
  rw [IntKind.wrap_u64, IntKind.wrap_i64]
  rcases h with rfl | rfl | rfl | rfl
  · show ((x * 72057594037927936 % 18446744073709551616 + 9223372036854775808) % 18446744073709551616 - 9223372036854775808) / 72057594037927936 = if x % 256 < 256 / 2 then x % 256 else x % 256 - 256
    omega
  · show ((x * 281474976710656 % 18446744073709551616 + 9223372036854775808) % 18446744073709551616 - 9223372036854775808) / 281474976710656 = if x % 65536 < 65536 / 2 then x % 65536 else x % 65536 - 65536
    omega
  · show ((x * 4294967296 % 18446744073709551616 + 9223372036854775808) % 18446744073709551616 - 9223372036854775808) / 4294967296 = if x % 4294967296 < 4294967296 / 2 then x % 4294967296 else x % 4294967296 - 4294967296
    omega
  · show ((x * 1 % 18446744073709551616 + 9223372036854775808) % 18446744073709551616 - 9223372036854775808) / 1 = if x % 18446744073709551616 < 18446744073709551616 / 2 then x % 18446744073709551616 else x % 18446744073709551616 - 18446744073709551616
    omega

theorem and_msk {n : Int} (h : isW n) (c : Int) (h0 : 0 ≤ c) (h1 : c < 18446744073709551616) : bits .and .u64 c (msk n) = c % pw n := by
  rcases h with rfl | rfl | rfl | rfl
  · show bits .and .u64 c 255 = c % 256
    rw [u64_and c 255 h0 h1 (by omega) (by omega)]
    have : c.toNat &&& (255 : Int).toNat = c.toNat % 256 := Nat.and_two_pow_sub_one_eq_mod c.toNat 8
    rw [this]; omega
  · show bits .and .u64 c 65535 = c % 65536
    rw [u64_and c 65535 h0 h1 (by omega) (by omega)]
    have : c.toNat &&& (65535 : Int).toNat = c.toNat % 65536 := Nat.and_two_pow_sub_one_eq_mod c.toNat 16
    rw [this]; omega
  · show bits .and .u64 c 4294967295 = c % 4294967296
    rw [u64_and c 4294967295 h0 h1 (by omega) (by omega)]
    have : c.toNat &&& (4294967295 : Int).toNat = c.toNat % 4294967296 := Nat.and_two_pow_sub_one_eq_mod c.toNat 32
    rw [this]; omega
  · show bits .and .u64 c 18446744073709551615 = c % 18446744073709551616
    rw [u64_and c 18446744073709551615 h0 h1 (by omega) (by omega)]
    have : c.toNat &&& (18446744073709551615 : Int).toNat = c.toNat % 18446744073709551616 := Nat.and_two_pow_sub_one_eq_mod c.toNat 64
    rw [this]; omega

theorem and_half {n : Int} (h : isW n) (c : Int) (h0 : 0 ≤ c) (h1 : c < 18446744073709551616) : bits .and .u64 c (msk n / 2) = c % (pw n / 2) := by
  rcases h with rfl | rfl | rfl | rfl
  · show bits .and .u64 c 127 = c % 128
    rw [u64_and c 127 h0 h1 (by omega) (by omega)]
    have : c.toNat &&& (127 : Int).toNat = c.toNat % 128 := Nat.and_two_pow_sub_one_eq_mod c.toNat 7
    rw [this]; omega
  · show bits .and .u64 c 32767 = c % 32768
    rw [u64_and c 32767 h0 h1 (by omega) (by omega)]
    have : c.toNat &&& (32767 : Int).toNat = c.toNat % 32768 := Nat.and_two_pow_sub_one_eq_mod c.toNat 15
    rw [this]; omega
  · show bits .and .u64 c 2147483647 = c % 2147483648
    rw [u64_and c 2147483647 h0 h1 (by omega) (by omega)]
    have : c.toNat &&& (2147483647 : Int).toNat = c.toNat % 2147483648 := Nat.and_two_pow_sub_one_eq_mod c.toNat 31
    rw [this]; omega
  · show bits .and .u64 c 9223372036854775807 = c % 9223372036854775808
    rw [u64_and c 9223372036854775807 h0 h1 (by omega) (by omega)]
    have : c.toNat &&& (9223372036854775807 : Int).toNat = c.toNat % 9223372036854775808 := Nat.and_two_pow_sub_one_eq_mod c.toNat 63
    rw [this]; omega

/-! c & (c - 1), of each kind -/
theorem ofInt_toNat (B : Nat) (x : Int) : (BitVec.ofInt B x).toNat = (x % 2 ^ B).toNat := by
  rw [BitVec.toNat_ofInt]; simp

theorem wrap_zero (k : IntKind) (v : Nat) (hv : v < 2 ^ k.bits) : (k.wrap (v : Int) != 0) = (v != 0) := by
  have e : (v : Int) % 2 ^ k.bits = v := Int.emod_eq_of_lt (by omega) (by exact_mod_cast hv)
  have h : k.wrap (v : Int) = if k.signed && decide ((v : Int) ≥ 2 ^ (k.bits - 1)) then (v : Int) - 2 ^ k.bits else v := by
    unfold IntKind.wrap; simp only [e]
  rw [h]
  by_cases h0 : v = 0
  · subst h0
    have : (0 : Int) < 2 ^ (k.bits - 1) := Int.pow_pos (by omega)
    simp; intro _; omega
  · have hv' : (v : Int) < 2 ^ k.bits := by exact_mod_cast hv
    have : (v != 0) = true := by simp [h0]
    rw [this]
    simp only [bne_iff_ne, ne_eq]
    split <;> omega

theorem and_pred (k : IntKind) (c : Int) : (bits .and k c (k.wrap (c - 1)) != 0) = pt (c % 2 ^ k.bits).toNat := by
  have hP : (0 : Int) < 2 ^ k.bits := Int.pow_pos (by omega)
  have hw : (k.wrap (c - 1)) % 2 ^ k.bits = (c - 1) % 2 ^ k.bits := by
    unfold IntKind.wrap
    simp only
    split
    · rw [Int.sub_emod_right, Int.emod_emod_of_dvd _ (Int.dvd_refl _)]
    · rw [Int.emod_emod_of_dvd _ (Int.dvd_refl _)]
  show (k.wrap ((BitVec.ofInt k.bits c &&& BitVec.ofInt k.bits (k.wrap (c - 1))).toNat : Int) != 0) = _
  rw [wrap_zero k _ (BitVec.isLt _), BitVec.toNat_and, ofInt_toNat, ofInt_toNat, hw]
  unfold pt
  have h0 := Int.emod_nonneg c (show (2 : Int) ^ k.bits ≠ 0 by omega)
  have h1 := Int.emod_lt_of_pos c hP
  by_cases hz : c % 2 ^ k.bits = 0
  · rw [hz]; simp
  · have : (c - 1) % 2 ^ k.bits = c % 2 ^ k.bits - 1 := by
      have hd := Int.emod_add_mul_ediv c (2 ^ k.bits)
      have e : c - 1 = (c % 2 ^ k.bits - 1) + 2 ^ k.bits * (c / 2 ^ k.bits) := by omega
      rw [e, Int.add_mul_emod_self_left]
      exact Int.emod_eq_of_lt (by omega) (by omega)
    rw [this]
    have e : (c % 2 ^ k.bits - 1).toNat = (c % 2 ^ k.bits).toNat - 1 := by omega
    rw [e]

/-- spec.Power -/
def powB (c : Int) : Bool := !(c == 0) && !(pt c.toNat)

theorem pt_zero : pt 0 = false := by decide
/-- spec.Power as the code asks it -/
def powW (c : Int) : Bool := !(c == 0) && (bits .and .u64 c (IntKind.u64.wrap (c - 1)) == 0)
theorem powW_eq (c : Int) (h0 : 0 ≤ c) (h1 : c < 18446744073709551616) : powW c = powB c := by
  unfold powW powB
  have h := and_pred .u64 c
  rw [show (2 : Int) ^ IntKind.u64.bits = 18446744073709551616 from by decide, Int.emod_eq_of_lt h0 h1] at h
  rw [← h]; unfold bne; rw [Bool.not_not]
/-- umagicOK, udivisibleOK -/
def umOK (n c : Int) : Bool := pt (c % pw n).toNat
theorem umOK_eq {n : Int} (hn : isW n) (c : Int) : (bits .and .u64 (low n c) (IntKind.u64.wrap (low n c - 1)) != 0) = umOK n c := by
  have h := and_pred .u64 (low n c)
  rw [h, low_eq hn, show (2 : Int) ^ IntKind.u64.bits = 18446744073709551616 from by decide]
  unfold umOK
  have hp := pw_cases hn
  have : c % pw n % 18446744073709551616 = c % pw n := by
    rcases hp with ⟨_, h⟩ | ⟨_, h⟩ | ⟨_, h⟩ | ⟨_, h⟩ <;> rw [h] <;> omega
  rw [this]
/-- smagicOK, sdivisibleOK, where c is not negative -/
theorem smOK_eq (c : Int) (h0 : 0 ≤ c) (h1 : c < 9223372036854775808) : (bits .and .i64 c (wrap64 (c - 1)) != 0) = pt c.toNat := by
  have h := and_pred .i64 c
  rw [IntWalk.i64_left, show (2 : Int) ^ IntKind.i64.bits = 18446744073709551616 from by decide, Int.emod_eq_of_lt h0 (by omega)] at h
  exact h
def smOK (c : Int) : Bool := !(decide (c < 0)) && pt c.toNat
theorem ret_int {k : IntKind} {a b : Int} (h : a = b) : Ending.returned (.int k a) = .returned (.int k b) := by rw [h]
theorem ret_bool {a b : Bool} (h : a = b) : Ending.returned (.bool a) = .returned (.bool b) := by rw [h]
end Go.Dv
