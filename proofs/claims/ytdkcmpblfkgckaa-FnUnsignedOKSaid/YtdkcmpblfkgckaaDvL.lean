/-
  The plain laws of the questions whether a division or a test is turned.
-/
import Derived.Test.YtdkcmpblfkgckaaDvW
namespace Go.Dv
open Go.RowKit

theorem wrap64_mod (c : Int) : wrap64 c % 18446744073709551616 = c % 18446744073709551616 := by
  unfold wrap64; omega
theorem emod_pw {n : Int} (hn : isW n) {a b : Int} (h : a % 18446744073709551616 = b % 18446744073709551616) : a % pw n = b % pw n := by
  have hp := pw_cases hn
  rcases hp with ⟨_, e⟩ | ⟨_, e⟩ | ⟨_, e⟩ | ⟨_, e⟩ <;> rw [e] <;> omega
theorem umOK_wrap {n : Int} (hn : isW n) (c : Int) : umOK n (wrap64 c) = umOK n c := by
  unfold umOK; rw [emod_pw hn (wrap64_mod c)]
theorem low_range {n : Int} (hn : isW n) (x : Int) : 0 ≤ x % pw n ∧ x % pw n < pw n ∧ pw n ≤ 18446744073709551616 := by
  have hp := pw_cases hn
  rcases hp with ⟨_, e⟩ | ⟨_, e⟩ | ⟨_, e⟩ | ⟨_, e⟩ <;> rw [e] <;> omega

theorem unsignedOK_law {n : Int} (hn : isW n) (x : Int) (h0 : 0 ≤ x) (h1 : x ≤ 18446744073709551615) :
    (umOK n (wrap64 (bits .and .u64 x (msk n))) == (bits .and .u64 x (msk n) != 0 && !powW (bits .and .u64 x (msk n)))) = true := by
  rw [umOK_wrap hn, and_msk hn x h0 (by omega)]
  obtain ⟨a, b, d⟩ := low_range hn x
  rw [powW_eq _ a (by omega)]
  unfold umOK powB
  rw [Int.emod_emod_of_dvd _ (Int.dvd_refl _)]
  by_cases hz : x % pw n = 0
  · rw [hz]; decide
  · have : (x % pw n == 0) = false := by simpa using hz
    unfold bne; rw [this]; simp
theorem unsignedOK_zero {n : Int} (hn : isW n) : (!umOK n (wrap64 0)) = true := by
  rw [umOK_wrap hn]; unfold umOK; simp [pt_zero]
end Go.Dv
