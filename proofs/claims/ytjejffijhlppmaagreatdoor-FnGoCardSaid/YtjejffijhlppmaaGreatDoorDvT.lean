/-
  The plain laws of the two divisibility tests.
-/
import Derived.Test.YtjejffijhlppmaaGreatDoorTz
import Derived.Test.YtjejffijhlppmaaGreatDoorDvL
namespace Go.Dv
set_option linter.unusedVariables false
open Go.RowKit

theorem pw_dvd {n : Int} (hn : isW n) : pw n ∣ 18446744073709551616 := by
  have hp := pw_cases hn
  rcases hp with ⟨_, e⟩ | ⟨_, e⟩ | ⟨_, e⟩ | ⟨_, e⟩ <;> rw [e] <;> decide
theorem pw_pos {n : Int} (hn : isW n) : 256 ≤ pw n ∧ pw n ≤ 18446744073709551616 ∧ pw n % 2 = 0 := by
  have hp := pw_cases hn
  omega

theorem nw_newt (d m : Int) : nw d m = newt 18446744073709551616 d m := by
  unfold nw newt; rw [IntKind.wrap_u64, IntKind.wrap_u64, IntKind.wrap_u64]
theorem nw_range (d m : Int) : 0 ≤ nw d m ∧ nw d m < 18446744073709551616 := by
  unfold nw; rw [IntKind.wrap_u64]
  exact ⟨Int.emod_nonneg _ (by omega), Int.emod_lt_of_pos _ (by omega)⟩
theorem inv_spec {n : Int} (hn : isW n) (d : Int) (ho : d % 2 = 1) : 0 ≤ inv n d ∧ inv n d < pw n ∧ pw n ∣ inv n d * d - 1 := by
  have h := newton_inv d ho
  simp only [← nw_newt] at h
  unfold inv
  obtain ⟨r0, r1⟩ := nw_range d (nw d (nw d (nw d (nw d d))))
  rw [and_msk hn _ r0 r1]
  obtain ⟨a, b, -⟩ := low_range hn (nw d (nw d (nw d (nw d (nw d d)))))
  exact ⟨a, b, dvd_mod (pw n) (pw n) _ (Int.dvd_refl _) (Int.dvd_trans (pw_dvd hn) h) d _ rfl⟩

theorem two_pow_le {a b : Nat} (h : a ≤ b) : (2 : Int) ^ a ≤ 2 ^ b := by
  have := Nat.pow_le_pow_right (n := 2) (by omega) h
  exact_mod_cast this
theorem or_join (X L K n : Nat) (k j : Nat) (hK : K = 2 ^ k) (hL : L = 2 ^ j) (hn : n = k + j) (hX : X < 2 ^ n) :
    (X / K ||| X * L) % 2 ^ n = X / K + X % K * L := by
  have hKp : 0 < K := by rw [hK]; exact Nat.pow_pos (by omega)
  have hLp : 0 < L := by rw [hL]; exact Nat.pow_pos (by omega)
  have hN : 2 ^ n = K * L := by rw [hn, Nat.pow_add, hK, hL]
  have hq : X / K < L := by rw [Nat.div_lt_iff_lt_mul hKp, Nat.mul_comm, ← hN]; exact hX
  have e1 : X * L % 2 ^ n = X % K * L := by
    have h := Nat.div_add_mod X K
    have : X * L = X % K * L + 2 ^ n * (X / K) := by
      rw [hN]
      calc X * L = (K * (X / K) + X % K) * L := by rw [h]
        _ = X % K * L + K * L * (X / K) := by grind
    rw [this, Nat.add_mul_mod_self_left]
    apply Nat.mod_eq_of_lt
    rw [hN]
    exact Nat.mul_lt_mul_of_pos_right (Nat.mod_lt _ hKp) hLp
  have e2 : X / K % 2 ^ n = X / K := by
    apply Nat.mod_eq_of_lt
    have : L ≤ K * L := Nat.le_mul_of_pos_left _ hKp
    omega
  rw [Nat.or_mod_two_pow, e1, e2, Nat.or_comm, nat_join j _ _ (by rw [hL]; exact Nat.mul_mod_left _ _) (by rw [← hL]; exact hq)]
  omega

theorem turned_eq {n : Int} (hn : isW n) (x k : Int) (h0 : 0 ≤ x) (h1 : x < 18446744073709551616) (k0 : 0 ≤ k) (k1 : k < n) :
    turned n x k = x % pw n / 2 ^ k.toNat + x % pw n % 2 ^ k.toNat * 2 ^ (n - k).toNat := by
  obtain ⟨a, b, c⟩ := low_range hn x
  obtain ⟨g0, g1⟩ := isW_range hn
  unfold turned
  rw [and_msk hn x h0 h1]
  generalize x % pw n = X at *
  obtain ⟨X, rfl⟩ := Int.eq_ofNat_of_zero_le a
  obtain ⟨k, rfl⟩ := Int.eq_ofNat_of_zero_le k0
  obtain ⟨m, rfl⟩ := Int.eq_ofNat_of_zero_le (show 0 ≤ n by omega)
  obtain ⟨j, hj⟩ : ∃ j : Nat, m = k + j := ⟨m - k, by omega⟩
  have ek : ((k : Nat) : Int).toNat = k := by omega
  have ej : ((m : Int) - (k : Int)).toNat = j := by omega
  rw [ek, ej]
  have hpw : pw (m : Int) = ((2 ^ m : Nat) : Int) := by
    unfold pw; have : ((m : Nat) : Int).toNat = m := by omega
    rw [this]; exact (Int.natCast_pow 2 m).symm
  have hX : X < 2 ^ m := by rw [hpw] at b; exact_mod_cast b
  have hm64 : m ≤ 64 := by omega
  have e1 : (X : Int) / 2 ^ k = ((X / 2 ^ k : Nat) : Int) := by push_cast; rfl
  have e2 : IntKind.u64.wrap ((X : Int) * 2 ^ j) = ((X * 2 ^ j % 18446744073709551616 : Nat) : Int) := by
    rw [IntKind.wrap_u64, Int.natCast_emod, Int.natCast_mul, Int.natCast_pow]; rfl
  have hq : X / 2 ^ k < 18446744073709551616 := by
    have := Nat.div_le_self X (2 ^ k)
    omega
  have hr : X * 2 ^ j % 18446744073709551616 < 18446744073709551616 := Nat.mod_lt _ (by omega)
  rw [e1, e2, bits_or_u64_nat _ _ hq hr]
  have ho : (X / 2 ^ k ||| X * 2 ^ j % 18446744073709551616) < 18446744073709551616 := Nat.or_lt_two_pow (n := 64) hq hr
  rw [and_msk hn _ (by omega) (by omega), hpw]
  have e3 : (X / 2 ^ k ||| X * 2 ^ j % 18446744073709551616) % 2 ^ m = X / 2 ^ k + X % 2 ^ k * 2 ^ j := by
    rw [← or_join X (2 ^ j) (2 ^ k) m k j rfl rfl hj hX, Nat.or_mod_two_pow, Nat.or_mod_two_pow]
    congr 1
    have : (18446744073709551616 : Nat) = 2 ^ m * 2 ^ (64 - m) := by rw [← Nat.pow_add, show m + (64 - m) = 64 by omega]
    rw [this, Nat.mod_mul_right_mod]
  rw [← Int.natCast_emod, e3]
  push_cast; rfl

/-- the zeros of a number below 2 to the power of n -/
theorem tz_lt {n : Int} (hn : isW n) (d : Int) (h0 : 0 < d) (h1 : d < pw n) :
    0 ≤ tz d ∧ tz d < n ∧ pw n = 2 ^ (tz d).toNat * 2 ^ (n - tz d).toNat ∧ (0 : Int) < 2 ^ (tz d).toNat ∧ (0 : Int) < 2 ^ (n - tz d).toNat ∧
    0 < oddp d ∧ oddp d % 2 = 1 ∧ d = 2 ^ (tz d).toNat * oddp d := by
  obtain ⟨p0, p1, -⟩ := pw_pos hn
  obtain ⟨o1, o2, o3⟩ := oddp_pos d h0 (by omega)
  obtain ⟨k0, k1, -⟩ := tz_spec d h0 (by omega)
  obtain ⟨g0, g1⟩ := isW_range hn
  have hK : (0 : Int) < 2 ^ (tz d).toNat := Int.pow_pos (by omega)
  have hlt : tz d < n := by
    by_cases h : tz d < n
    · exact h
    · exfalso
      have a : (2 : Int) ^ n.toNat ≤ 2 ^ (tz d).toNat := two_pow_le (by omega)
      have b : (2 : Int) ^ (tz d).toNat * 1 ≤ 2 ^ (tz d).toNat * oddp d := Int.mul_le_mul_of_nonneg_left (by omega) (by omega)
      have c : pw n = 2 ^ n.toNat := rfl
      omega
  refine ⟨k0, hlt, ?_, hK, Int.pow_pos (by omega), o1, o2, o3⟩
  rw [← Int.pow_add]; unfold pw; congr 1; omega

/-- THE UNSIGNED TEST. -/
theorem udiv_law {n : Int} (hn : isW n) (d x : Int) (h0 : 0 < d) (h1 : d < pw n) (x0 : 0 ≤ x) (x1 : x < pw n) :
    dvB n (tz d) (inv n (oddp d)) (msk n / d) x = (x % d == 0) := by
  unfold dvB
  obtain ⟨k0, k1, hN, hK, hL, o1, o2, o3⟩ := tz_lt hn d h0 h1
  obtain ⟨i0, i1, i2⟩ := inv_spec hn (oddp d) o2
  have hw : 0 ≤ IntKind.u64.wrap (x * inv n (oddp d)) ∧ IntKind.u64.wrap (x * inv n (oddp d)) < 18446744073709551616 := by
    rw [IntKind.wrap_u64]; exact ⟨Int.emod_nonneg _ (by omega), Int.emod_lt_of_pos _ (by omega)⟩
  rw [turned_eq hn _ _ hw.1 hw.2 k0 k1, msk_pw hn]
  have e : IntKind.u64.wrap (x * inv n (oddp d)) % pw n = x * inv n (oddp d) % pw n := by
    rw [IntKind.wrap_u64, Int.emod_emod_of_dvd _ (pw_dvd hn)]
  rw [e]
  have h := unsigned_test (pw n) (2 ^ (tz d).toNat) (2 ^ (n - tz d).toNat) (oddp d) d (inv n (oddp d)) x hN hK hL o1 o3 h1 i2 x0 x1
  by_cases hx : x % d = 0
  · rw [decide_eq_true (h.2 hx), hx]; rfl
  · rw [decide_eq_false (fun c => hx (h.1 c))]
    exact (by simpa using hx : (x % d == 0) = false).symm

theorem not_dvd_half {n : Int} (hn : isW n) (d : Int) (h0 : 0 < d) (hp : pt d.toNat = true) : ¬ d ∣ pw n / 2 := by
  intro h
  have e : pw n / 2 = ((2 ^ (n.toNat - 1) : Nat) : Int) := by
    rcases hn with rfl | rfl | rfl | rfl <;> decide
  obtain ⟨m, rfl⟩ := Int.eq_ofNat_of_zero_le (show 0 ≤ d by omega)
  rw [e] at h
  obtain ⟨k, -, hk⟩ := dvd_two_pow _ m (by exact_mod_cast h)
  rw [show ((m : Nat) : Int).toNat = m by omega, hk] at hp
  unfold pt at hp
  rw [two_pow_and] at hp
  exact absurd hp (by decide)

theorem sdA_eq {n : Int} (hn : isW n) (d : Int) (h0 : 0 < d) (h1 : d < pw n / 2) :
    sdA n d = 2 ^ (tz d).toNat * ((pw n / 2 - 1) / d) ∧ 0 ≤ (pw n / 2 - 1) / d ∧ 2 ^ (tz d).toNat * ((pw n / 2 - 1) / d) ≤ pw n / 2 - 1 := by
  obtain ⟨p0, p1, p2⟩ := pw_pos hn
  obtain ⟨k0, k1, hN, hK, hL, o1, o2, o3⟩ := tz_lt hn d h0 (by omega)
  obtain ⟨q0, q1, -⟩ := tz_spec d h0 (by omega)
  unfold sdA
  rw [msk_pw hn, show (pw n - 1) / 2 = pw n / 2 - 1 by omega]
  generalize hH : pw n / 2 - 1 = H at *
  have hH0 : 0 ≤ H ∧ H < 9223372036854775808 := by omega
  rw [Int.tdiv_eq_ediv_of_nonneg (by omega)]
  have a0 : 0 ≤ H / oddp d := Int.ediv_nonneg (by omega) (by omega)
  have a1 : H / oddp d ≤ H := Int.ediv_le_self _ (by omega)
  rw [IntKind.wrap_u64, Int.emod_eq_of_lt a0 (by omega)]
  have e1 : H / d = H / oddp d / 2 ^ (tz d).toNat := by
    rw [Int.ediv_ediv_of_nonneg (by omega), Int.mul_comm, ← o3]
  rw [e1]
  generalize H / oddp d = q at *
  have hKn : (2 : Int) ^ (tz d).toNat = ((2 ^ (tz d).toNat : Nat) : Int) := (Int.natCast_pow 2 _).symm
  have hq0 : 0 ≤ q / 2 ^ (tz d).toNat := Int.ediv_nonneg a0 (by omega)
  have hle : 2 ^ (tz d).toNat * (q / 2 ^ (tz d).toNat) ≤ q := Int.mul_ediv_self_le (by omega)
  refine ⟨?_, hq0, by omega⟩
  -- the mask's word
  have hK63 : (2 : Int) ^ (tz d).toNat < 18446744073709551616 := by
    have : (2 : Int) ^ (tz d).toNat ≤ 2 ^ 63 := two_pow_le (by omega)
    have e : (2 : Int) ^ 63 = 9223372036854775808 := by decide
    omega
  have e2 : IntKind.u64.wrap (-IntKind.u64.wrap (2 ^ (tz d).toNat)) = 18446744073709551616 - 2 ^ (tz d).toNat := by
    rw [IntKind.wrap_u64, IntKind.wrap_u64, Int.emod_eq_of_lt (by omega) hK63]
    omega
  rw [e2]
  obtain ⟨Q, rfl⟩ := Int.eq_ofNat_of_zero_le a0
  have hQ : Q < 18446744073709551616 := by omega
  have e3 : (18446744073709551616 : Int) - 2 ^ (tz d).toNat = ((18446744073709551616 - 2 ^ (tz d).toNat : Nat) : Int) := by
    rw [hKn]
    rw [hKn] at hK63
    omega
  have hKp : 0 < 2 ^ (tz d).toNat := Nat.pow_pos (by omega)
  rw [e3, bits_and_u64_nat Q _ hQ (by omega)]
  have e4 : Q &&& (18446744073709551616 - 2 ^ (tz d).toNat) = 2 ^ (tz d).toNat * (Q / 2 ^ (tz d).toNat) := by
    apply Nat.eq_of_testBit_eq
    intro i
    rw [Nat.testBit_and, Nat.mul_comm, Nat.testBit_mul_two_pow, Nat.testBit_div_two_pow]
    have e5 : (18446744073709551616 : Nat) - 2 ^ (tz d).toNat = (2 ^ (64 - (tz d).toNat) - 1) * 2 ^ (tz d).toNat := by
      rw [Nat.sub_mul, ← Nat.pow_add, show 64 - (tz d).toNat + (tz d).toNat = 64 by omega]; omega
    rw [e5, Nat.testBit_mul_two_pow, Nat.testBit_two_pow_sub_one]
    by_cases hi : (tz d).toNat ≤ i
    · simp only [hi, decide_true, Bool.true_and]
      rw [show i - (tz d).toNat + (tz d).toNat = i by omega]
      by_cases hi2 : i - (tz d).toNat < 64 - (tz d).toNat
      · simp [hi2]
      · have : Q.testBit i = false := Nat.testBit_lt_two_pow (Nat.lt_of_lt_of_le hQ (Nat.pow_le_pow_right (n := 2) (by omega) (show 64 ≤ i by omega)))
        simp [this]
    · simp [hi]
  rw [e4]; push_cast; rfl

theorem sdM_eq {n : Int} (hn : isW n) (d : Int) (h0 : 0 < d) (h1 : d < pw n / 2) : sdM n d = 2 * ((pw n / 2 - 1) / d) := by
  obtain ⟨p0, p1, p2⟩ := pw_pos hn
  obtain ⟨k0, k1, hN, hK, hL, o1, o2, o3⟩ := tz_lt hn d h0 (by omega)
  obtain ⟨a1, a2, a3⟩ := sdA_eq hn d h0 h1
  unfold sdM
  rw [a1]
  generalize (pw n / 2 - 1) / d = a at *
  generalize (2 : Int) ^ (tz d).toNat = K at *
  have : 0 ≤ K * a := Int.mul_nonneg (by omega) a2
  rw [IntKind.wrap_u64, Int.emod_eq_of_lt (by omega) (by omega)]
  rw [show 2 * (K * a) = K * (2 * a) by grind]
  exact Int.mul_ediv_cancel_left _ (by omega)

/-- THE SIGNED TEST. -/
theorem sdiv_law {n : Int} (hn : isW n) (d x : Int) (h0 : 0 < d) (h1 : d < pw n / 2) (hp : pt d.toNat = true) (x0 : -(pw n / 2) ≤ x) (x1 : x < pw n / 2) :
    dsB n (tz d) (inv n (oddp d)) (sdA n d) (sdM n d) x = (siz x % d == 0) := by
  unfold dsB
  obtain ⟨p0, p1, p2⟩ := pw_pos hn
  obtain ⟨k0, k1, hN, hK, hL, o1, o2, o3⟩ := tz_lt hn d h0 (by omega)
  obtain ⟨i0, i1, i2⟩ := inv_spec hn (oddp d) o2
  obtain ⟨a1, a2, a3⟩ := sdA_eq hn d h0 h1
  have hw : ∀ y, 0 ≤ IntKind.u64.wrap y ∧ IntKind.u64.wrap y < 18446744073709551616 := fun y => by
    rw [IntKind.wrap_u64]; exact ⟨Int.emod_nonneg _ (by omega), Int.emod_lt_of_pos _ (by omega)⟩
  rw [turned_eq hn _ _ (hw _).1 (hw _).2 k0 k1, sdM_eq hn d h0 h1, a1]
  have e : IntKind.u64.wrap (IntKind.u64.wrap (IntKind.u64.wrap x * inv n (oddp d)) + 2 ^ (tz d).toNat * ((pw n / 2 - 1) / d)) % pw n = (x * inv n (oddp d) + 2 ^ (tz d).toNat * ((pw n / 2 - 1) / d)) % pw n := by
    rw [IntKind.wrap_u64, IntKind.wrap_u64, IntKind.wrap_u64, Int.emod_emod_of_dvd _ (pw_dvd hn)]
    obtain ⟨u, hu⟩ := pw_dvd hn
    have f1 := Int.emod_add_mul_ediv (x % 18446744073709551616 * inv n (oddp d)) 18446744073709551616
    have f2 := Int.emod_add_mul_ediv x 18446744073709551616
    generalize 2 ^ (tz d).toNat * ((pw n / 2 - 1) / d) = A at *
    generalize x % 18446744073709551616 * inv n (oddp d) % 18446744073709551616 = r at *
    generalize x % 18446744073709551616 * inv n (oddp d) / 18446744073709551616 = s at *
    have g : r + A = (x * inv n (oddp d) + A) + pw n * (-(u * (x / 18446744073709551616) * inv n (oddp d)) - u * s) := by
      have g1 : x % 18446744073709551616 = x - 18446744073709551616 * (x / 18446744073709551616) := by omega
      rw [g1] at f1
      rw [hu] at f1
      have : r = (x - pw n * u * (x / (pw n * u))) * inv n (oddp d) - pw n * u * s := by omega
      rw [this, ← hu]
      grind
    rw [g, Int.add_mul_emod_self_left]
  rw [e]
  have h := signed_test (pw n) (pw n / 2 - 1) (2 ^ (tz d).toNat) (2 ^ (n - tz d).toNat) (oddp d) d (inv n (oddp d)) x ((pw n / 2 - 1) / d) hN (by omega) hK hL o1 o3 i2 (by omega) (by omega) rfl
    (by rw [show pw n / 2 - 1 + 1 = pw n / 2 by omega]; exact not_dvd_half hn d h0 hp)
  have hs : d ∣ x ↔ siz x % d = 0 := by
    unfold siz
    split
    · rw [← Int.dvd_neg]; exact ⟨Int.emod_eq_zero_of_dvd, Int.dvd_of_emod_eq_zero⟩
    · exact ⟨Int.emod_eq_zero_of_dvd, Int.dvd_of_emod_eq_zero⟩
  by_cases hx : siz x % d = 0
  · rw [decide_eq_true (h.2 (hs.2 hx)), hx]; rfl
  · rw [decide_eq_false (fun c => hx (hs.1 (h.1 c)))]
    exact (by simpa using hx : (siz x % d == 0) = false).symm
theorem siz_range (x : Int) (h0 : -9223372036854775808 ≤ x) (h1 : x ≤ 9223372036854775808) : 0 ≤ siz x ∧ siz x ≤ 9223372036854775808 := by
  unfold siz; split <;> omega
theorem inv_one {n : Int} (hn : isW n) (d : Int) (h0 : 0 < d) (ho : d % 2 = 1) : inv n d ≤ msk n ∧ (bits .and .u64 (IntKind.u64.wrap (inv n d * d)) (msk n) == 1) = true ∧ 0 < inv n d := by
  obtain ⟨i0, i1, i2⟩ := inv_spec hn d ho
  obtain ⟨p0, p1, -⟩ := pw_pos hn
  refine ⟨by rw [msk_pw hn]; omega, ?_, ?_⟩
  · have hw : 0 ≤ IntKind.u64.wrap (inv n d * d) ∧ IntKind.u64.wrap (inv n d * d) < 18446744073709551616 := by
      rw [IntKind.wrap_u64]; exact ⟨Int.emod_nonneg _ (by omega), Int.emod_lt_of_pos _ (by omega)⟩
    rw [and_msk hn _ hw.1 hw.2, IntKind.wrap_u64, Int.emod_emod_of_dvd _ (pw_dvd hn)]
    obtain ⟨q, hq⟩ := i2
    have e : inv n d * d = 1 + pw n * q := by omega
    rw [e, Int.add_mul_emod_self_left, Int.emod_eq_of_lt (by omega) (by omega)]; rfl
  · by_cases h : inv n d = 0
    · rw [h] at i2
      obtain ⟨q, hq⟩ := i2
      have : pw n * q = -1 := by omega
      have h3 : pw n * q % 2 = 0 := by
        rw [Int.mul_emod]; have : pw n % 2 = 0 := by have := pw_pos hn; omega
        rw [this]; simp
      omega
    · omega
theorem test_unsigned {n : Int} (hn : isW n) (c : Int) (h0 : 0 < c) (h1 : c < pw n) :
    inv n (oddp c) ≤ msk n ∧ (bits .and .u64 (IntKind.u64.wrap (inv n (oddp c) * (c / 2 ^ (tz c).toNat))) (msk n) == 1) = true := by
  obtain ⟨-, -, -, -, -, o1, o2, -⟩ := tz_lt hn c h0 h1
  obtain ⟨a, b, -⟩ := inv_one hn (oddp c) o1 o2
  exact ⟨a, b⟩
theorem test_signed {n : Int} (hn : isW n) (c : Int) (h0 : 0 < c) (h1 : c < pw n / 2) :
    IntKind.u64.wrap (msk n / 2 / oddp c / 2 ^ (tz c).toNat * 2 ^ (tz c).toNat) = sdA n c ∧ IntKind.u64.wrap (2 * sdA n c) / 2 ^ (tz c).toNat = sdM n c := by
  obtain ⟨p0, p1, p2⟩ := pw_pos hn
  obtain ⟨-, -, -, hK, -, o1, o2, o3⟩ := tz_lt hn c h0 (by omega)
  obtain ⟨a1, a2, a3⟩ := sdA_eq hn c h0 h1
  refine ⟨?_, rfl⟩
  rw [a1, msk_pw hn, show (pw n - 1) / 2 = pw n / 2 - 1 by omega, Int.ediv_ediv_of_nonneg (by omega), Int.mul_comm (oddp c), ← o3, Int.mul_comm]
  have : 0 ≤ 2 ^ (tz c).toNat * ((pw n / 2 - 1) / c) := Int.mul_nonneg (by omega) a2
  rw [IntKind.wrap_u64, Int.emod_eq_of_lt this (by omega)]
theorem pt_ge (c : Int) (h0 : 0 < c) (h : pt c.toNat = true) : 3 ≤ c := by
  by_cases h1 : c = 1
  · subst h1; exact absurd h (by decide)
  · by_cases h2 : c = 2
    · subst h2; exact absurd h (by decide)
    · omega
theorem multiples {n : Int} (hn : isW n) (c a : Int) (h0 : 0 < c) (h1 : c < pw n) (hp : pt c.toNat = true) (ha : 0 ≤ a) :
    0 < msk n / c + 1 ∧ msk n / c + 1 ≤ 18446744073709551615 ∧ 0 ≤ IntKind.u64.wrap (a % (msk n / c + 1) * c) ∧ IntKind.u64.wrap (a % (msk n / c + 1) * c) ≤ 18446744073709551615 ∧
    dvB n (tz c) (inv n (oddp c)) (msk n / c) (IntKind.u64.wrap (a % (msk n / c + 1) * c)) = true ∧ 0 ≤ IntKind.u64.wrap (a % (msk n / c + 1) * c) + 1 ∧
    ((IntKind.u64.wrap (a % (msk n / c + 1) * c) == msk n) = false → IntKind.u64.wrap (a % (msk n / c + 1) * c) + 1 ≤ 18446744073709551615) ∧
    ((IntKind.u64.wrap (a % (msk n / c + 1) * c) == msk n) = false → dvB n (tz c) (inv n (oddp c)) (msk n / c) (IntKind.u64.wrap (a % (msk n / c + 1) * c) + 1) = false) := by
  have h3 := pt_ge c h0 hp
  obtain ⟨p0, p1, -⟩ := pw_pos hn
  have m := msk_pw hn
  have q0 : 0 ≤ msk n / c := Int.ediv_nonneg (by omega) (by omega)
  have q1 : msk n / c * c ≤ msk n := Int.ediv_mul_le _ (by omega)
  have q2 : msk n / c * 3 ≤ msk n / c * c := Int.mul_le_mul_of_nonneg_left h3 q0
  have k0 := Int.emod_nonneg a (show msk n / c + 1 ≠ 0 by omega)
  have k1 := Int.emod_lt_of_pos a (show 0 < msk n / c + 1 by omega)
  generalize a % (msk n / c + 1) = k at *
  have e0 : 0 ≤ k * c := Int.mul_nonneg k0 (by omega)
  have e1 : k * c ≤ msk n / c * c := Int.mul_le_mul_of_nonneg_right (by omega) (by omega)
  have ew : IntKind.u64.wrap (k * c) = k * c := by rw [IntKind.wrap_u64]; exact Int.emod_eq_of_lt e0 (by omega)
  rw [ew]
  have d1 := udiv_law hn c (k * c) h0 h1 e0 (by omega)
  refine ⟨by omega, by omega, e0, by omega, ?_, by omega, ?_, ?_⟩
  · rw [d1, Int.mul_emod_left]; rfl
  · intro hne
    have : k * c ≠ msk n := by simpa using hne
    omega
  · intro hne
    have hne : k * c ≠ msk n := by simpa using hne
    rw [udiv_law hn c (k * c + 1) h0 h1 (by omega) (by omega)]
    have : (k * c + 1) % c = 1 := by
      rw [Int.add_comm, Int.add_mul_emod_self_right]; exact Int.emod_eq_of_lt (by omega) (by omega)
    rw [this]; rfl
theorem doubled {n : Int} (hn : isW n) (c x : Int) (h0 : 0 < c) (h1 : c < pw n / 2) (x0 : 0 ≤ x) (x1 : x < pw n / 2) :
    dvB n (tz (2 * c)) (inv n (oddp (2 * c))) (msk n / (2 * c)) (2 * x) = dvB n (tz c) (inv n (oddp c)) (msk n / c) x := by
  obtain ⟨p0, p1, p2⟩ := pw_pos hn
  rw [udiv_law hn (2 * c) (2 * x) (by omega) (by omega) (by omega) (by omega), udiv_law hn c x h0 (by omega) x0 (by omega)]
  have e : 2 * x % (2 * c) = 2 * (x % c) := Int.mul_emod_mul_of_pos x c (by omega)
  rw [e]
  by_cases h : x % c = 0
  · rw [h]; rfl
  · have a : (x % c == 0) = false := by simpa using h
    have b : (2 * (x % c) == 0) = false := by simp; omega
    rw [a, b]
/-! what a law's head gives -/
theorem cut_range {n : Int} (hn : isW n) (a : Int) (h0 : 0 ≤ a) (h1 : a ≤ 18446744073709551615) : 0 ≤ bits .and .u64 a (msk n) ∧ bits .and .u64 a (msk n) < pw n ∧ bits .and .u64 a (msk n) = a % pw n := by
  rw [and_msk hn a h0 (by omega)]
  obtain ⟨x, y, -⟩ := low_range hn a
  exact ⟨x, y, rfl⟩
theorem half_range {n : Int} (hn : isW n) (a : Int) (h0 : 0 ≤ a) (h1 : a ≤ 18446744073709551615) : 0 ≤ bits .and .u64 a (msk n / 2) ∧ bits .and .u64 a (msk n / 2) < pw n / 2 := by
  rw [and_half hn a h0 (by omega)]
  obtain ⟨p0, p1, -⟩ := pw_pos hn
  exact ⟨Int.emod_nonneg _ (by omega), Int.emod_lt_of_pos _ (by omega)⟩
theorem low_wrap {n : Int} (hn : isW n) (c : Int) (h0 : 0 ≤ c) (h1 : c < pw n) : low n (IntKind.i64.wrap c) = c ∧ low n (wrap64 c) = c := by
  have e : low n (wrap64 c) = c := by
    rw [low_eq hn, emod_pw hn (wrap64_mod c)]; exact Int.emod_eq_of_lt h0 h1
  exact ⟨by rw [IntWalk.i64_left]; exact e, e⟩
theorem not_pow (c : Int) (h0 : 0 < c) (h1 : c < 18446744073709551616) (h : powW c = false) : pt c.toNat = true := by
  rw [powW_eq c (by omega) h1] at h
  unfold powB at h
  have : (c == 0) = false := by simp; omega
  rw [this] at h; simpa using h
end Go.Dv
