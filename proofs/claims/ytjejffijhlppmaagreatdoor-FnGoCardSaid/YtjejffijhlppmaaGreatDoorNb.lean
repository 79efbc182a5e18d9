/-
  Plain facts on the constants of a division.
-/
import Derived.Test.YtjejffijhlppmaaGreatDoorBf
import Derived.Test.YtjejffijhlppmaaGreatDoorDvT
namespace Go.Dv
/-- a quotient rounded up, of 2 to the power of n + s by d, with T the least power of 2 above d -/
theorem ceil_u (P T d Q : Int) (hd : 0 < d) (hdP : d < P) (h1 : d < T) (h2 : T < 2 * d) (h3 : T % 2 = 0) (hQ : (P * T + d - 1) / d = Q) : P < Q ∧ Q < 2 * P := by
  have e := Int.emod_add_mul_ediv (P * T + d - 1) d
  have a := Int.emod_nonneg (P * T + d - 1) (show d ≠ 0 by omega)
  have b := Int.emod_lt_of_pos (P * T + d - 1) hd
  rw [hQ] at e
  have k1 : P * T ≤ P * (2 * d - 2) := Int.mul_le_mul_of_nonneg_left (by omega) (by omega)
  have k2 : P * (d + 1) ≤ P * T := Int.mul_le_mul_of_nonneg_left (by omega) (by omega)
  have k3 : P * (d + 1) = P * d + P := by grind
  have k4 : P * (2 * d - 2) = 2 * (P * d) - 2 * P := by grind
  constructor
  · refine Int.lt_of_mul_lt_mul_left (a := d) ?_ (by omega)
    rw [Int.mul_comm d P]; omega
  · refine Int.lt_of_mul_lt_mul_left (a := d) ?_ (by omega)
    have : d * (2 * P) = 2 * (P * d) := by grind
    omega
theorem ceil_s (P H T d Q : Int) (hH : P = 2 * H) (hd : 0 < d) (hdH : d < H) (h1 : T < d) (h2 : d < 2 * T) (hQ : (P * T + d - 1) / d = Q) : H < Q ∧ Q < P := by
  have e := Int.emod_add_mul_ediv (P * T + d - 1) d
  have a := Int.emod_nonneg (P * T + d - 1) (show d ≠ 0 by omega)
  have b := Int.emod_lt_of_pos (P * T + d - 1) hd
  rw [hQ] at e
  have k1 : P * T ≤ P * (d - 1) := Int.mul_le_mul_of_nonneg_left (by omega) (by omega)
  have k2 : H * (d + 1) ≤ H * (2 * T) := Int.mul_le_mul_of_nonneg_left (by omega) (by omega)
  have k3 : H * (d + 1) = H * d + H := by grind
  have k4 : P * (d - 1) = P * d - P := by grind
  have k5 : H * (2 * T) = P * T := by subst hH; grind
  constructor
  · refine Int.lt_of_mul_lt_mul_left (a := d) ?_ (by omega)
    rw [Int.mul_comm d H]; omega
  · refine Int.lt_of_mul_lt_mul_left (a := d) ?_ (by omega)
    rw [Int.mul_comm d P]; omega
/-- a division word by word -/
theorem long_div (W a b d : Int) (hd : 0 < d) : (a * W + b) / d = a / d * W + (a % d * W + b) / d := by
  have e := Int.emod_add_mul_ediv a d
  have : a * W + b = (a % d * W + b) + d * (a / d * W) := by
    have : a * W = (a % d + d * (a / d)) * W := by rw [e]
    rw [this]; grind
  rw [this, Int.add_mul_ediv_left _ _ (by omega)]; omega
theorem ediv_one (a d : Int) (h0 : d ≤ a) (h1 : a < 2 * d) : a / d = 1 ∧ a % d = a - d := by
  have hd : 0 < d := by omega
  have e := Int.emod_add_mul_ediv a d
  have k1 := Int.emod_nonneg a (show d ≠ 0 by omega)
  have k2 := Int.emod_lt_of_pos a hd
  have h : a / d = 1 := by
    refine Int.le_antisymm ?_ ?_
    · have := Int.ediv_lt_of_lt_mul hd (show a < 2 * d by omega); omega
    · exact (Int.le_ediv_iff_mul_le hd).2 (by omega)
  rw [h] at e
  exact ⟨h, by omega⟩
end Go.Dv
namespace Go.Dv
set_option linter.unusedVariables false
/-- 2 to the power of s, without and with a sign -/
def ts (d : Int) : Int := 2 ^ (blen d).toNat
def ths (d : Int) : Int := 2 ^ (blen d - 1).toNat
/-- the constants -/
def umg (n d : Int) : Int := (pw n * ts d + d - 1) / d - pw n
def smg (n d : Int) : Int := (pw n * ths d + d - 1) / d
theorem ts_spec (d : Int) (h0 : 0 < d) (h1 : d < 18446744073709551616) (hp : pt d.toNat = true) :
    2 ≤ blen d ∧ blen d ≤ 64 ∧ d < ts d ∧ ts d < 2 * d ∧ ts d = 2 * ths d ∧ ths d < d ∧ 0 < ths d := by
  obtain ⟨a, b, c, e⟩ := bitLen_bounds d.toNat (by omega) (by omega)
  have hd3 := pt_ge d h0 hp
  have hL : (blen d).toNat = Lib.bitLen d.toNat := by unfold blen; omega
  have hL1 : (blen d - 1).toNat = Lib.bitLen d.toNat - 1 := by unfold blen; omega
  have q1 : ((2 ^ (Lib.bitLen d.toNat - 1) : Nat) : Int) = (2 : Int) ^ (Lib.bitLen d.toNat - 1) := Int.natCast_pow 2 _
  have q2 : ((2 ^ Lib.bitLen d.toNat : Nat) : Int) = (2 : Int) ^ Lib.bitLen d.toNat := Int.natCast_pow 2 _
  have q3 : (2 : Int) ^ Lib.bitLen d.toNat = 2 * 2 ^ (Lib.bitLen d.toNat - 1) := by
    rw [show Lib.bitLen d.toNat = (Lib.bitLen d.toNat - 1) + 1 by omega, Int.pow_succ]
    simp only [Nat.add_sub_cancel]; omega
  have hne : 2 ^ (Lib.bitLen d.toNat - 1) ≠ d.toNat := fun h => by
    rw [← h] at hp
    simp [pt] at hp
  unfold ts ths
  rw [hL, hL1]
  have hb2 : 2 ≤ blen d ∧ blen d ≤ 64 := by
    refine ⟨?_, by unfold blen; omega⟩
    by_cases h2 : 2 ≤ blen d
    · exact h2
    · have : Lib.bitLen d.toNat = 1 := by unfold blen at h2; omega
      rw [this] at e; omega
  refine ⟨hb2.1, hb2.2, by omega, by omega, q3, by omega, Int.pow_pos (by omega)⟩
theorem two_pow_lt {a b : Nat} (h : (2 : Int) ^ a < 2 ^ b) : a < b := by
  by_cases hh : a < b
  · exact hh
  · have := two_pow_le (show b ≤ a by omega); omega
theorem blen_le {n : Int} (hn : isW n) (d : Int) (h0 : 0 < d) (h1 : d < 18446744073709551616) (hp : pt d.toNat = true) :
    (d < pw n → blen d ≤ n ∧ ts d ≤ pw n) ∧ (d < pw n / 2 → blen d ≤ n - 1) := by
  obtain ⟨a, b, c, e, f, g, h⟩ := ts_spec d h0 h1 hp
  obtain ⟨g0, g1⟩ := isW_range hn
  constructor
  · intro hd
    have : (blen d - 1).toNat < n.toNat := two_pow_lt (show ths d < pw n by omega)
    have hle : blen d ≤ n := by omega
    exact ⟨hle, two_pow_le (by omega)⟩
  · intro hd
    have h2 : pw n / 2 = 2 ^ (n - 1).toNat := by
      unfold pw; rw [show n.toNat = (n - 1).toNat + 1 by omega, Int.pow_succ]; omega
    have : (blen d - 1).toNat < (n - 1).toNat := two_pow_lt (show ths d < 2 ^ (n - 1).toNat by omega)
    omega
theorem umg_range {n : Int} (hn : isW n) (d : Int) (h0 : 0 < d) (h1 : d < pw n) (hp : pt d.toNat = true) : 0 < umg n d ∧ umg n d < pw n := by
  have hw := pw_cases hn
  obtain ⟨a, b, c, e, f, g, h⟩ := ts_spec d h0 (by omega) hp
  obtain ⟨u, v⟩ := ceil_u (pw n) (ts d) d _ h0 h1 c e (by omega) rfl
  unfold umg; omega
theorem smg_range {n : Int} (hn : isW n) (d : Int) (h0 : 0 < d) (h1 : d < pw n / 2) (hp : pt d.toNat = true) : pw n / 2 < smg n d ∧ smg n d < pw n := by
  have hw := pw_cases hn
  obtain ⟨a, b, c, e, f, g, h⟩ := ts_spec d h0 (by omega) hp
  exact ceil_s (pw n) (pw n / 2) (ths d) d _ (by omega) h0 h1 g (by omega) rfl
theorem pw_ts {n : Int} (hn : isW n) (d : Int) (h0 : 0 < d) (h1 : d < 18446744073709551616) (hp : pt d.toNat = true) : pw n * ts d = 2 ^ (n + blen d).toNat ∧ pw n * ths d = 2 ^ (n + (blen d - 1)).toNat := by
  obtain ⟨a, b, c, e, f, g, h⟩ := ts_spec d h0 h1 hp
  obtain ⟨g0, g1⟩ := isW_range hn
  unfold pw ts ths
  constructor
  · rw [← Int.pow_add, show n.toNat + (blen d).toNat = (n + blen d).toNat by omega]
  · rw [← Int.pow_add, show n.toNat + (blen d - 1).toNat = (n + (blen d - 1)).toNat by omega]
theorem um_ceil {n : Int} (hn : isW n) (d : Int) (h0 : 0 < d) : pw n * ts d ≤ (umg n d + pw n) * d ∧ (umg n d + pw n) * d < pw n * ts d + d :=
  ceil_facts (pw n * ts d) d (umg n d + pw n) h0 (by unfold umg; omega)
theorem um_law {n : Int} (hn : isW n) (d x : Int) (h0 : 0 < d) (h1 : d < pw n) (hp : pt d.toNat = true) (x0 : 0 ≤ x) (x1 : x < pw n) :
    x * (umg n d + pw n) / 2 ^ (n + blen d).toNat = x / d := by
  have hw := pw_cases hn
  obtain ⟨a, b, c, e, f, g, h⟩ := ts_spec d h0 (by omega) hp
  rw [← (pw_ts hn d h0 (by omega) hp).1]
  exact magic_unsigned (pw n) (ts d) d (umg n d + pw n) x h0 (by omega) (by omega) (by omega) (um_ceil hn d h0) x0 x1
theorem sm_ceil {n : Int} (hn : isW n) (d : Int) (h0 : 0 < d) (h1 : d < pw n / 2) (hp : pt d.toNat = true) : pw n * ths d < smg n d * d ∧ smg n d * d < pw n * ths d + d := by
  have hw := pw_cases hn
  obtain ⟨u, v⟩ := ceil_facts (pw n * ths d) d (smg n d) h0 rfl
  obtain ⟨a, b, c, e, f, g, h⟩ := ts_spec d h0 (by omega) hp
  refine ⟨?_, v⟩
  by_cases he : pw n * ths d = smg n d * d
  · exfalso
    rw [(pw_ts hn d h0 (by omega) hp).2] at he
    have hdv : d.toNat ∣ 2 ^ (n + (blen d - 1)).toNat := by
      have : d ∣ 2 ^ (n + (blen d - 1)).toNat := ⟨smg n d, by rw [he]; exact Int.mul_comm _ _⟩
      have e1 : d = (d.toNat : Int) := by omega
      rw [e1] at this
      exact_mod_cast this
    obtain ⟨k, -, hk⟩ := dvd_two_pow _ _ hdv
    rw [hk] at hp
    simp [pt] at hp
  · omega
theorem sm_law {n : Int} (hn : isW n) (d y : Int) (h0 : 0 < d) (h1 : d < pw n / 2) (hp : pt d.toNat = true) (y0 : 0 ≤ y) (y1 : 2 * y ≤ pw n) :
    y * smg n d / 2 ^ (n + (blen d - 1)).toNat = y / d ∧ (1 ≤ y → y * smg n d % 2 ^ (n + (blen d - 1)).toNat ≠ 0) := by
  have hw := pw_cases hn
  obtain ⟨a, b, c, e, f, g, h⟩ := ts_spec d h0 (by omega) hp
  rw [← (pw_ts hn d h0 (by omega) hp).2]
  exact magic_signed (pw n) (ths d) d (smg n d) y h0 h (by omega) (by omega) (sm_ceil hn d h0 h1 hp) y0 y1
end Go.Dv
