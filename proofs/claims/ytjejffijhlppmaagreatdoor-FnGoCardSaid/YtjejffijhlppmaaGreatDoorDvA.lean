/-
  Plain mathematics, no program in sight: Newton inverse, the two divisibility tests, the magic quotients, powers of two.
-/
namespace Go.Dv
/-- one step of Newton's inverse -/
theorem newton_step (P m d : Int) (h : P ∣ m * d - 1) : P * P ∣ m * (2 - m * d) * d - 1 := by
  obtain ⟨k, hk⟩ := h
  refine ⟨-(k * k), ?_⟩
  have : m * d = P * k + 1 := by omega
  grind

theorem dvd_mod (P W a : Int) (hP : P ∣ W) (h : P ∣ a - 1) (d x : Int) (hx : a = x * d) : P ∣ (x % W) * d - 1 := by
  subst hx
  obtain ⟨q, hq⟩ := hP
  have e : x % W = x - W * (x / W) := by have := Int.emod_add_mul_ediv x W; omega
  rw [e]
  obtain ⟨k, hk⟩ := h
  refine ⟨k - q * (x / W) * d, ?_⟩
  rw [hq]; grind

theorem mod_eq_sub (x W : Int) : ∃ q, x % W = x - W * q := ⟨x / W, by have := Int.emod_add_mul_ediv x W; omega⟩

/-- the step with its wraps -/
def newt (W d m : Int) : Int := (m * ((2 - (m * d) % W) % W)) % W

theorem newt_dvd (P W d m : Int) (hP : P ∣ W) (h : P ∣ m * (2 - m * d) * d - 1) : P ∣ newt W d m * d - 1 := by
  unfold newt
  obtain ⟨q1, e1⟩ := mod_eq_sub (m * d) W
  rw [e1]
  obtain ⟨q2, e2⟩ := mod_eq_sub (2 - (m * d - W * q1)) W
  rw [e2]
  obtain ⟨q3, e3⟩ := mod_eq_sub (m * (2 - (m * d - W * q1) - W * q2)) W
  rw [e3]
  obtain ⟨q, hq⟩ := hP
  obtain ⟨k, hk⟩ := h
  refine ⟨k + q * d * (m * q1 - m * q2 - q3), ?_⟩
  rw [hq]; grind

theorem odd_sq (d : Int) (h : d % 2 = 1) : 8 ∣ d * d - 1 := by
  obtain ⟨t, ht⟩ : ∃ t, d = 2 * t + 1 := ⟨d / 2, by omega⟩
  have h2 : d * d - 1 = 4 * (t * (t + 1)) := by subst ht; grind
  have h3 : (t * (t + 1)) % 2 = 0 := by
    rcases Int.emod_two_eq t with h | h
    · rw [Int.mul_emod, h]; simp
    · rw [Int.mul_emod]; have : (t + 1) % 2 = 0 := by omega
      rw [this]; simp
  omega

theorem newton_inv (d : Int) (h : d % 2 = 1) :
    let W := 18446744073709551616
    W ∣ newt W d (newt W d (newt W d (newt W d (newt W d d)))) * d - 1 := by
  intro W
  have h3 : (8 : Int) ∣ d * d - 1 := odd_sq d h
  have h6 := newt_dvd (8 * 8) W d d (by decide) (newton_step _ _ _ h3)
  have h12 := newt_dvd (64 * 64) W d _ (by decide) (newton_step _ _ _ h6)
  have h24 := newt_dvd (4096 * 4096) W d _ (by decide) (newton_step _ _ _ h12)
  have h48 := newt_dvd (16777216 * 16777216) W d _ (by decide) (newton_step _ _ _ h24)
  exact newt_dvd W W d _ (Int.dvd_refl _) (Int.dvd_trans (by decide) (newton_step _ _ _ h48))
end Go.Dv
namespace Go.Dv
theorem mul_lt_mul_pos {a b c : Int} (h : a < b) (hc : 0 < c) : a * c < b * c := Int.mul_lt_mul_of_pos_right h hc

/-- The unsigned test. N = K * L: the width's power, c = K * d. -/
theorem unsigned_test (N K L d c m x : Int) (hN : N = K * L) (hK : 0 < K) (hL : 0 < L) (hd : 0 < d) (hc : c = K * d) (hcN : c < N)
    (hm : N ∣ m * d - 1) (hx0 : 0 ≤ x) (hxN : x < N) :
    ((x * m) % N / K + (x * m) % N % K * L ≤ (N - 1) / c) ↔ x % c = 0 := by
  have hcpos : 0 < c := by rw [hc]; exact Int.mul_pos hK hd
  have hNpos : 0 < N := by omega
  have hX0 := Int.emod_nonneg (x * m) (show N ≠ 0 by omega)
  have hXN := Int.emod_lt_of_pos (x * m) hNpos
  have hXe := Int.emod_add_mul_ediv (x * m) N
  generalize hX : (x * m) % N = X at *
  have hq : c * ((N - 1) / c) ≤ N - 1 := by
    have := Int.mul_ediv_self_le (x := N - 1) (k := c) (by omega); exact this
  have hq0 : 0 ≤ (N - 1) / c := Int.ediv_nonneg (by omega) (by omega)
  have hqlt : ∀ t, c * t ≤ N - 1 → t ≤ (N - 1) / c := fun t ht => by
    rw [Int.le_ediv_iff_mul_le hcpos]; rw [Int.mul_comm]; omega
  generalize hM : (N - 1) / c = M at *
  have hr0 := Int.emod_nonneg X (show K ≠ 0 by omega)
  have hrK := Int.emod_lt_of_pos X hK
  have hXd := Int.emod_add_mul_ediv X K
  have hY0 : 0 ≤ X / K := Int.ediv_nonneg hX0 (by omega)
  generalize hY : X / K = Y at *
  generalize hr : X % K = r at *
  -- the greatest quotient is below L
  have hML : M < L := by
    have h1 : K * (d * M) < K * L := by
      have : c * M = K * (d * M) := by rw [hc]; grind
      omega
    have h2 : d * M < L := Int.lt_of_mul_lt_mul_left h1 (by omega)
    have h3 : M ≤ d * M := by
      have : 1 * M ≤ d * M := Int.mul_le_mul_of_nonneg_right (by omega) hq0
      omega
    omega
  obtain ⟨u, hu⟩ := hm
  constructor
  · intro h
    have hr00 : r = 0 := by
      by_cases h0 : r = 0
      · exact h0
      · exfalso
        have : 1 * L ≤ r * L := Int.mul_le_mul_of_nonneg_right (by omega) (by omega)
        omega
    subst hr00
    have hYM : Y ≤ M := by simpa using h
    have e1 : X = K * Y := by omega
    -- x ≡ c * Y modulo N, both below N
    have hcY : c * Y ≤ N - 1 := by
      have : c * Y ≤ c * M := Int.mul_le_mul_of_nonneg_left hYM (by omega)
      omega
    have hcY0 : 0 ≤ c * Y := Int.mul_nonneg (by omega) hY0
    have e2 : ∃ t, x - c * Y = N * t := by
      refine ⟨x * m / N * d - x * u, ?_⟩
      have : m * d = N * u + 1 := by omega
      have h4 : x * m = K * Y + N * (x * m / N) := by omega
      have h5 : x * (m * d) = (K * Y + N * (x * m / N)) * d := by rw [← h4]; grind
      rw [this] at h5
      rw [hc]; grind
    obtain ⟨t, ht⟩ := e2
    have ht0 : t = 0 := by
      by_cases h0 : t ≤ -1
      · have : N * t ≤ N * (-1) := Int.mul_le_mul_of_nonneg_left h0 (by omega)
        omega
      · by_cases h1 : 1 ≤ t
        · have : N * 1 ≤ N * t := Int.mul_le_mul_of_nonneg_left h1 (by omega)
          omega
        · omega
    subst ht0
    have : x = c * Y := by omega
    rw [this]; exact Int.mul_emod_right c Y
  · intro h
    obtain ⟨q, hq'⟩ : ∃ q, x = c * q := ⟨x / c, by have := Int.emod_add_mul_ediv x c; omega⟩
    have hq0' : 0 ≤ q := by
      by_cases h0 : q ≤ -1
      · have : c * q ≤ c * (-1) := Int.mul_le_mul_of_nonneg_left h0 (by omega)
        omega
      · omega
    have hqM : q ≤ M := hqlt q (by omega)
    have hKq : K * q < N := by
      have : K * q < K * L := by
        exact Int.mul_lt_mul_of_pos_left (by omega) hK
      omega
    have hKq0 : 0 ≤ K * q := Int.mul_nonneg (by omega) hq0'
    have e2 : ∃ t, X - K * q = N * t := by
      refine ⟨K * q * u - x * m / N, ?_⟩
      have h3 : m * d = N * u + 1 := by omega
      have h4 : x * m = K * q * (m * d) := by rw [hq', hc]; grind
      rw [h3] at h4
      have h5 : X = x * m - N * (x * m / N) := by omega
      rw [h5, h4]; grind
    obtain ⟨t, ht⟩ := e2
    have ht0 : t = 0 := by
      by_cases h0 : t ≤ -1
      · have : N * t ≤ N * (-1) := Int.mul_le_mul_of_nonneg_left h0 (by omega)
        omega
      · by_cases h1 : 1 ≤ t
        · have : N * 1 ≤ N * t := Int.mul_le_mul_of_nonneg_left h1 (by omega)
          omega
        · omega
    subst ht0
    have e : X = K * q := by omega
    have eY : Y = q := by rw [← hY, e]; exact Int.mul_ediv_cancel_left q (by omega)
    have er : r = 0 := by rw [← hr, e]; exact Int.mul_emod_right K q
    rw [eY, er]; simp; exact hqM

/-- The signed test. H = N / 2 - 1, a' = H / c, the addend is K * a'. -/
theorem signed_test (N H K L d c m x a : Int) (hN : N = K * L) (hH : N = 2 * H + 2) (hK : 0 < K) (hL : 0 < L) (hd : 0 < d) (hc : c = K * d)
    (hm : N ∣ m * d - 1) (hx0 : -(H + 1) ≤ x) (hxN : x ≤ H) (ha : a = H / c) (hend : ¬ c ∣ H + 1) :
    ((x * m + K * a) % N / K + (x * m + K * a) % N % K * L ≤ 2 * a) ↔ c ∣ x := by
  have hcpos : 0 < c := by rw [hc]; exact Int.mul_pos hK hd
  have hNpos : 0 < N := by omega
  have hX0 := Int.emod_nonneg (x * m + K * a) (show N ≠ 0 by omega)
  have hXN := Int.emod_lt_of_pos (x * m + K * a) hNpos
  have hXe := Int.emod_add_mul_ediv (x * m + K * a) N
  generalize hX : (x * m + K * a) % N = X at *
  have hq : c * a ≤ H := by
    have := Int.mul_ediv_self_le (x := H) (k := c) (by omega); rw [ha]; exact this
  have hq0 : 0 ≤ a := by rw [ha]; exact Int.ediv_nonneg (by omega) (by omega)
  have hqlt : ∀ t, c * t ≤ H → t ≤ a := fun t ht => by
    rw [ha, Int.le_ediv_iff_mul_le hcpos]; rw [Int.mul_comm]; omega
  have hr0 := Int.emod_nonneg X (show K ≠ 0 by omega)
  have hrK := Int.emod_lt_of_pos X hK
  have hXd := Int.emod_add_mul_ediv X K
  have hY0 : 0 ≤ X / K := Int.ediv_nonneg hX0 (by omega)
  generalize hY : X / K = Y at *
  generalize hr : X % K = r at *
  have hML : 2 * a < L := by
    have h1 : K * (d * (2 * a)) < K * L := by
      have : c * (2 * a) = K * (d * (2 * a)) := by rw [hc]; grind
      have : c * (2 * a) = 2 * (c * a) := by grind
      omega
    have h2 : d * (2 * a) < L := Int.lt_of_mul_lt_mul_left h1 (by omega)
    have h3 : 1 * (2 * a) ≤ d * (2 * a) := Int.mul_le_mul_of_nonneg_right (by omega) (by omega)
    omega
  obtain ⟨u, hu⟩ := hm
  constructor
  · intro h
    have hr00 : r = 0 := by
      by_cases h0 : r = 0
      · exact h0
      · exfalso
        have : 1 * L ≤ r * L := Int.mul_le_mul_of_nonneg_right (by omega) (by omega)
        omega
    subst hr00
    have hYM : Y ≤ 2 * a := by simpa using h
    have e1 : X = K * Y := by omega
    have hb1 : c * (Y - a) ≤ c * a := Int.mul_le_mul_of_nonneg_left (by omega) (by omega)
    have hb2 : c * (-a) ≤ c * (Y - a) := Int.mul_le_mul_of_nonneg_left (by omega) (by omega)
    have hb3 : c * (-a) = -(c * a) := by grind
    have e2 : ∃ t, x - c * (Y - a) = N * t := by
      refine ⟨(x * m + K * a) / N * d - x * u, ?_⟩
      have h3 : m * d = N * u + 1 := by omega
      have h4 : x * m = K * Y - K * a + N * ((x * m + K * a) / N) := by omega
      have h5 : x * (m * d) = (K * Y - K * a + N * ((x * m + K * a) / N)) * d := by rw [← h4]; grind
      rw [h3] at h5
      rw [hc]; grind
    obtain ⟨t, ht⟩ := e2
    have ht0 : t = 0 := by
      by_cases h0 : t ≤ -1
      · have : N * t ≤ N * (-1) := Int.mul_le_mul_of_nonneg_left h0 (by omega)
        omega
      · by_cases h1 : 1 ≤ t
        · have : N * 1 ≤ N * t := Int.mul_le_mul_of_nonneg_left h1 (by omega)
          omega
        · omega
    subst ht0
    exact ⟨Y - a, by omega⟩
  · rintro ⟨q, hq'⟩
    have hxne : x ≠ -(H + 1) := by
      intro h
      apply hend
      exact ⟨-q, by rw [hq'] at h; have : c * -q = -(c * q) := by grind
                    omega⟩
    have hqa : q ≤ a := hqlt q (by omega)
    have hqa' : -q ≤ a := hqlt (-q) (by have : c * -q = -(c * q) := by grind
                                        omega)
    have hKq : K * (q + a) < N := by
      have : K * (q + a) < K * L := Int.mul_lt_mul_of_pos_left (by omega) hK
      omega
    have hKq0 : 0 ≤ K * (q + a) := Int.mul_nonneg (by omega) (by omega)
    have e2 : ∃ t, X - K * (q + a) = N * t := by
      refine ⟨K * q * u - (x * m + K * a) / N, ?_⟩
      have h3 : m * d = N * u + 1 := by omega
      have h4 : x * m = K * q * (m * d) := by rw [hq', hc]; grind
      rw [h3] at h4
      have h5 : X = x * m + K * a - N * ((x * m + K * a) / N) := by omega
      rw [h5, h4]; grind
    obtain ⟨t, ht⟩ := e2
    have ht0 : t = 0 := by
      by_cases h0 : t ≤ -1
      · have : N * t ≤ N * (-1) := Int.mul_le_mul_of_nonneg_left h0 (by omega)
        omega
      · by_cases h1 : 1 ≤ t
        · have : N * 1 ≤ N * t := Int.mul_le_mul_of_nonneg_left h1 (by omega)
          omega
        · omega
    subst ht0
    have e : X = K * (q + a) := by omega
    have eY : Y = q + a := by rw [← hY, e]; exact Int.mul_ediv_cancel_left _ (by omega)
    have er : r = 0 := by rw [← hr, e]; exact Int.mul_emod_right K _
    rw [eY, er]; simp; omega
end Go.Dv
namespace Go.Dv
theorem ceil_facts (T c M : Int) (hc : 0 < c) (hM : M = (T + c - 1) / c) : T ≤ M * c ∧ M * c < T + c := by
  have h1 := Int.emod_add_mul_ediv (T + c - 1) c
  have h2 := Int.emod_nonneg (T + c - 1) (show c ≠ 0 by omega)
  have h3 := Int.emod_lt_of_pos (T + c - 1) hc
  rw [← hM] at h1
  have h4 : M * c = c * M := Int.mul_comm M c
  omega

/-- unsigned: T = N * S, M the quotient rounded up, c ≤ S -/
theorem magic_unsigned (N S c M x : Int) (hc : 0 < c) (hS : 0 < S) (hN : 0 < N) (hcS : c ≤ S) (hM : N * S ≤ M * c ∧ M * c < N * S + c) (hx0 : 0 ≤ x) (hx : x < N) :
    x * M / (N * S) = x / c := by
  have hNS : 0 < N * S := Int.mul_pos hN hS
  have h1 := Int.emod_add_mul_ediv x c
  have h2 := Int.emod_nonneg x (show c ≠ 0 by omega)
  have h3 := Int.emod_lt_of_pos x hc
  generalize x / c = q at *
  generalize x % c = r at *
  obtain ⟨e, he⟩ : ∃ e, M * c = N * S + e := ⟨M * c - N * S, by omega⟩
  have hxe : x * e < N * S := by
    have a1 : x * e ≤ x * S := Int.mul_le_mul_of_nonneg_left (by omega) hx0
    have a2 : x * S < N * S := Int.mul_lt_mul_of_pos_right hx hS
    omega
  have hxe0 : 0 ≤ x * e := Int.mul_nonneg hx0 (by omega)
  have key : x * M * c = x * (N * S) + x * e := by
    have : x * M * c = x * (M * c) := by grind
    rw [this, he]; grind
  have lo : q * (N * S) ≤ x * M := by
    have a : (q * (N * S)) * c ≤ (x * M) * c := by
      rw [key]
      have : q * (N * S) * c = (x - r) * (N * S) := by rw [show x - r = c * q by omega]; grind
      rw [this]
      have : (x - r) * (N * S) = x * (N * S) - r * (N * S) := by grind
      have : 0 ≤ r * (N * S) := Int.mul_nonneg h2 (by omega)
      omega
    exact Int.le_of_mul_le_mul_right a hc
  have hi : x * M < (q + 1) * (N * S) := by
    have a : (x * M) * c < ((q + 1) * (N * S)) * c := by
      rw [key]
      have : (q + 1) * (N * S) * c = (x - r + c) * (N * S) := by rw [show x - r = c * q by omega]; grind
      rw [this]
      have b : (x - r + c) * (N * S) = x * (N * S) + (c - r) * (N * S) := by grind
      have : 1 * (N * S) ≤ (c - r) * (N * S) := Int.mul_le_mul_of_nonneg_right (by omega) (by omega)
      omega
    exact Int.lt_of_mul_lt_mul_right a (by omega)
  refine Int.le_antisymm ?_ ?_
  · have := Int.ediv_lt_of_lt_mul hNS hi; omega
  · exact (Int.le_ediv_iff_mul_le hNS).2 lo

/-- signed: c < 2 * S, y ≤ N / 2, the product never exact -/
theorem magic_signed (N S c M y : Int) (hc : 0 < c) (hS : 0 < S) (hN : 0 < N) (hcS : c < 2 * S) (hM : N * S < M * c ∧ M * c < N * S + c) (hy0 : 0 ≤ y) (hy : 2 * y ≤ N) :
    y * M / (N * S) = y / c ∧ (1 ≤ y → y * M % (N * S) ≠ 0) := by
  have hNS : 0 < N * S := Int.mul_pos hN hS
  have h1 := Int.emod_add_mul_ediv y c
  have h2 := Int.emod_nonneg y (show c ≠ 0 by omega)
  have h3 := Int.emod_lt_of_pos y hc
  generalize y / c = q at *
  generalize y % c = r at *
  obtain ⟨e, he⟩ : ∃ e, M * c = N * S + e := ⟨M * c - N * S, by omega⟩
  have hye : y * e < N * S := by
    by_cases h0 : y = 0
    · subst h0; omega
    have a1 : y * e < y * (2 * S) := Int.mul_lt_mul_of_pos_left (by omega) (by omega)
    have a2 : (2 * y) * S ≤ N * S := Int.mul_le_mul_of_nonneg_right hy (by omega)
    have a3 : y * (2 * S) = 2 * y * S := by grind
    omega
  have hye0 : 0 ≤ y * e := Int.mul_nonneg hy0 (by omega)
  have key : y * M * c = y * (N * S) + y * e := by
    have : y * M * c = y * (M * c) := by grind
    rw [this, he]; grind
  have lo : (q * (N * S)) * c ≤ y * (N * S) := by
    have : q * (N * S) * c = (y - r) * (N * S) := by rw [show y - r = c * q by omega]; grind
    rw [this]
    have : (y - r) * (N * S) = y * (N * S) - r * (N * S) := by grind
    have : 0 ≤ r * (N * S) := Int.mul_nonneg h2 (by omega)
    omega
  have lo' : q * (N * S) ≤ y * M := by
    have a : (q * (N * S)) * c ≤ (y * M) * c := by rw [key]; omega
    exact Int.le_of_mul_le_mul_right a hc
  have hi : y * M < (q + 1) * (N * S) := by
    have a : (y * M) * c < ((q + 1) * (N * S)) * c := by
      rw [key]
      have : (q + 1) * (N * S) * c = (y - r + c) * (N * S) := by rw [show y - r = c * q by omega]; grind
      rw [this]
      have b : (y - r + c) * (N * S) = y * (N * S) + (c - r) * (N * S) := by grind
      have : 1 * (N * S) ≤ (c - r) * (N * S) := Int.mul_le_mul_of_nonneg_right (by omega) (by omega)
      omega
    exact Int.lt_of_mul_lt_mul_right a (by omega)
  have hq : y * M / (N * S) = q := by
    refine Int.le_antisymm ?_ ?_
    · have := Int.ediv_lt_of_lt_mul hNS hi; omega
    · exact (Int.le_ediv_iff_mul_le hNS).2 lo'
  refine ⟨hq, fun hy1 h0 => ?_⟩
  have h5 := Int.emod_add_mul_ediv (y * M) (N * S)
  rw [h0, hq] at h5
  have h6 : y * M = q * (N * S) := by have : q * (N * S) = N * S * q := Int.mul_comm _ _
                                      omega
  have h7 : 0 < y * e := Int.mul_pos (by omega) (by omega)
  rw [h6] at key
  omega

/-- no divisor of a power of two but a power of two -/
theorem dvd_two_pow (j c : Nat) (h : c ∣ 2 ^ j) : ∃ k, k ≤ j ∧ c = 2 ^ k := by
  induction j generalizing c with
  | zero => exact ⟨0, Nat.le_refl _, by simpa using h⟩
  | succ j ih =>
    rcases Nat.mod_two_eq_zero_or_one c with h0 | h1
    · obtain ⟨d, rfl⟩ : ∃ d, c = 2 * d := ⟨c / 2, by omega⟩
      have : d ∣ 2 ^ j := by
        rw [Nat.pow_succ, Nat.mul_comm (2 ^ j)] at h
        exact Nat.dvd_of_mul_dvd_mul_left (by omega) h
      obtain ⟨k, hk, rfl⟩ := ih d this
      exact ⟨k + 1, by omega, by rw [Nat.pow_succ, Nat.mul_comm]⟩
    · have hco : Nat.Coprime c 2 := by
        rw [Nat.Coprime, Nat.gcd_comm, Nat.gcd_rec, h1]; rfl
      have : c ∣ 2 ^ j := by
        rw [Nat.pow_succ] at h
        exact Nat.Coprime.dvd_of_dvd_mul_right hco h
      obtain ⟨k, hk, rfl⟩ := ih c this
      exact ⟨k, by omega, rfl⟩

theorem two_pow_and (k : Nat) : 2 ^ k &&& (2 ^ k - 1) = 0 := by
  rw [Nat.and_two_pow_sub_one_eq_mod]; simp

end Go.Dv
