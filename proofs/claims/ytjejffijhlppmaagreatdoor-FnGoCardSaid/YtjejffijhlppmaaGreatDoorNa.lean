/-
  Plain facts on numbers as digits to the base 2 to the power of 32.
-/
import Derived.WalkKit
namespace Go.Dv
/-- the number that digits to the base 2 to the power of 32 tell, the lowest one first -/
def val : List Int → Int
  | [] => 0
  | d :: ds => d + 4294967296 * val ds
def dgs (ds : List Int) : Prop := ∀ d ∈ ds, 0 ≤ d ∧ d < 4294967296
def bse (k : Nat) : Int := 4294967296 ^ k
theorem bse_zero : bse 0 = 1 := rfl
theorem bse_succ (k : Nat) : bse (k + 1) = 4294967296 * bse k := by unfold bse; rw [Int.pow_succ, Int.mul_comm]
theorem bse_pos (k : Nat) : 0 < bse k := by
  induction k with
  | zero => decide
  | succ k ih => rw [bse_succ]; omega
theorem bse_add (a b : Nat) : bse (a + b) = bse a * bse b := by unfold bse; exact Int.pow_add _ _ _
theorem dgs_nil : dgs [] := by intro d h; cases h
theorem dgs_cons {d : Int} {ds : List Int} : dgs (d :: ds) ↔ (0 ≤ d ∧ d < 4294967296) ∧ dgs ds := by
  unfold dgs
  constructor
  · intro h; exact ⟨h d (by simp), fun x hx => h x (by simp [hx])⟩
  · rintro ⟨h1, h2⟩ x hx
    rcases List.mem_cons.1 hx with rfl | hx
    · exact h1
    · exact h2 x hx
theorem dgs_append {a b : List Int} : dgs (a ++ b) ↔ dgs a ∧ dgs b := by
  unfold dgs
  constructor
  · intro h; exact ⟨fun x hx => h x (by simp [hx]), fun x hx => h x (by simp [hx])⟩
  · rintro ⟨h1, h2⟩ x hx
    rcases List.mem_append.1 hx with hx | hx
    · exact h1 x hx
    · exact h2 x hx
theorem dgs_one {d : Int} (h0 : 0 ≤ d) (h1 : d < 4294967296) : dgs [d] := dgs_cons.2 ⟨⟨h0, h1⟩, dgs_nil⟩
theorem dgs_take {a : List Int} (h : dgs a) (k : Nat) : dgs (a.take k) := fun x hx => h x (List.mem_of_mem_take hx)
theorem dgs_drop {a : List Int} (h : dgs a) (k : Nat) : dgs (a.drop k) := fun x hx => h x (List.mem_of_mem_drop hx)
theorem dgs_getD {a : List Int} (h : dgs a) (j : Nat) : 0 ≤ a.getD j 0 ∧ a.getD j 0 < 4294967296 := by
  by_cases hj : j < a.length
  · have e : a.getD j 0 = a[j] := by simp [List.getD, hj]
    rw [e]; exact h _ (List.getElem_mem hj)
  · have : a.getD j 0 = 0 := by simp [List.getD, Nat.le_of_not_lt hj]
    omega
theorem val_range {a : List Int} (h : dgs a) : 0 ≤ val a ∧ val a < bse a.length := by
  induction a with
  | nil => simp [val, bse]
  | cons d ds ih =>
    obtain ⟨⟨h1, h2⟩, h3⟩ := dgs_cons.1 h
    have := ih h3
    simp only [val, List.length_cons, bse_succ]
    omega
theorem val_append (a b : List Int) : val (a ++ b) = val a + bse a.length * val b := by
  induction a with
  | nil => simp [val, bse]
  | cons d ds ih =>
    simp only [List.cons_append, val, ih, List.length_cons, bse_succ]
    grind
theorem val_snoc (a : List Int) (d : Int) : val (a ++ [d]) = val a + bse a.length * d := by
  rw [val_append]; simp [val]
theorem val_take_succ (a : List Int) (k : Nat) : val (a.take (k + 1)) = val (a.take k) + bse k * a.getD k 0 := by
  by_cases hk : k < a.length
  · have e : a.take (k + 1) = a.take k ++ [a.getD k 0] := by
      rw [List.take_succ_eq_append_getElem hk]; simp [List.getD, hk]
    rw [e, val_snoc, List.length_take_of_le (by omega)]
  · have e : a.getD k 0 = 0 := by simp [List.getD, Nat.le_of_not_lt hk]
    rw [e, List.take_of_length_le (by omega), List.take_of_length_le (by omega)]; simp
theorem val_congr : ∀ (a b : List Int), (∀ j, a.getD j 0 = b.getD j 0) → val a = val b
  | [], [], _ => rfl
  | [], y :: ys, h => by
    have h0 := h 0
    have h1 := val_congr [] ys (fun j => by simpa using h (j + 1))
    simp [val] at h0 h1 ⊢
    omega
  | x :: xs, [], h => by
    have h0 := h 0
    have h1 := val_congr xs [] (fun j => by simpa using h (j + 1))
    simp [val] at h0 h1 ⊢
    omega
  | x :: xs, y :: ys, h => by
    have h0 := h 0
    have h1 := val_congr xs ys (fun j => by simpa using h (j + 1))
    simp [val] at h0 h1 ⊢
    omega
theorem getD_drop (a : List Int) (i j : Nat) : (a.drop i).getD j 0 = a.getD (i + j) 0 := by
  simp [List.getD, List.getElem?_drop]
theorem val_split (a : List Int) (i : Nat) : val a = val (a.take i) + bse i * val (a.drop i) := by
  by_cases h : i ≤ a.length
  · have e : val a = val (a.take i ++ a.drop i) := by rw [List.take_append_drop]
    rw [e, val_append, List.length_take_of_le h]
  · rw [List.take_of_length_le (by omega), List.drop_of_length_le (by omega)]; simp [val]
theorem val_drop_step (a : List Int) (i : Nat) : val (a.drop i) = a.getD i 0 + 4294967296 * val (a.drop (i + 1)) := by
  by_cases h : i < a.length
  · rw [List.drop_eq_getElem_cons h]; simp [val, List.getD, h]
  · rw [List.drop_of_length_le (by omega), List.drop_of_length_le (by omega)]; simp [val, List.getD, Nat.le_of_not_lt h]
theorem val_drop_congr (a b : List Int) (i : Nat) (h : ∀ j, i ≤ j → a.getD j 0 = b.getD j 0) : val (a.drop i) = val (b.drop i) :=
  val_congr _ _ fun j => by rw [getD_drop, getD_drop]; exact h _ (by omega)
theorem take_lt {a : List Int} (h : dgs a) (i : Nat) : 0 ≤ val (a.take i) ∧ val (a.take i) < bse i := by
  have h1 := val_range (dgs_take h i)
  refine ⟨h1.1, Int.lt_of_lt_of_le h1.2 ?_⟩
  have : (a.take i).length ≤ i := List.length_take_le _ _
  obtain ⟨k, hk⟩ : ∃ k, i = (a.take i).length + k := ⟨i - (a.take i).length, by omega⟩
  generalize (a.take i).length = l at *
  subst hk
  rw [bse_add]
  have p1 := bse_pos l
  have p2 := bse_pos k
  have : bse l * 1 ≤ bse l * bse k := Int.mul_le_mul_of_nonneg_left (by omega) (by omega)
  omega
theorem cmp_lt {a b : List Int} (ha : dgs a) (hb : dgs b) (i : Nat) (h : ∀ j, i < j → a.getD j 0 = b.getD j 0) (hlt : a.getD i 0 < b.getD i 0) : val a < val b := by
  have e := val_drop_congr a b (i + 1) (fun j hj => h j (by omega))
  have s1 := val_split a i
  have s2 := val_split b i
  have d1 := val_drop_step a i
  have d2 := val_drop_step b i
  have t1 := take_lt ha i
  have t2 := take_lt hb i
  have p := bse_pos i
  rw [e] at d1
  have hd : val (a.drop i) + 1 ≤ val (b.drop i) := by omega
  have hm : bse i * (val (a.drop i) + 1) ≤ bse i * val (b.drop i) := Int.mul_le_mul_of_nonneg_left hd (by omega)
  rw [Int.mul_add] at hm
  omega
/-- what a comparison says -/
def cmpI (x y : Int) : Int := if x < y then -1 else if y < x then 1 else 0
theorem cmpI_lt {x y : Int} (h : x < y) : cmpI x y = -1 := if_pos h
theorem cmpI_gt {x y : Int} (h : y < x) : cmpI x y = 1 := by unfold cmpI; rw [if_neg (by omega), if_pos h]
theorem cmpI_eq {x y : Int} (h : x = y) : cmpI x y = 0 := by unfold cmpI; rw [if_neg (by omega), if_neg (by omega)]
theorem val_set : ∀ (a : List Int) (j : Nat) (d : Int), j < a.length → val (a.set j d) = val a + bse j * (d - a.getD j 0)
  | [], j, d, h => by simp at h
  | x :: xs, 0, d, h => by simp [val, bse]; omega
  | x :: xs, j + 1, d, h => by
    have ih := val_set xs j d (by simpa using h)
    simp only [List.set_cons_succ, val, ih, bse_succ, List.getD_cons_succ]
    grind
theorem dgs_set {a : List Int} (h : dgs a) (j : Nat) {d : Int} (h0 : 0 ≤ d) (h1 : d < 4294967296) : dgs (a.set j d) := by
  intro x hx
  rcases List.mem_or_eq_of_mem_set hx with hx | rfl
  · exact h x hx
  · exact ⟨h0, h1⟩
theorem getD_set_same (a : List Int) (j : Nat) (d : Int) (h : j < a.length) : (a.set j d).getD j 0 = d := by simp [List.getD, h]
theorem getD_set_other (a : List Int) (i j : Nat) (d : Int) (h : j ≠ i) : (a.set j d).getD i 0 = a.getD i 0 := by simp [List.getD, h]
theorem val_zeros (k : Nat) : val (List.replicate k 0) = 0 := by
  induction k with
  | zero => rfl
  | succ k ih => simp [List.replicate_succ, val, ih]
theorem dgs_zeros (k : Nat) : dgs (List.replicate k 0) := fun x hx => by
  rw [List.eq_of_mem_replicate hx]; decide
/-- a sum's round -/
theorem add_round (V A A' c p x y : Int) (h : V + c * p = A + A') : V + p * ((c + (x + y)) % 4294967296) + (c + (x + y)) / 4294967296 * (4294967296 * p) = A + p * x + (A' + p * y) := by
  have e := Int.emod_add_mul_ediv (c + (x + y)) 4294967296
  generalize (c + (x + y)) % 4294967296 = r at *
  generalize (c + (x + y)) / 4294967296 = q at *
  have : p * r + q * (4294967296 * p) = p * (c + (x + y)) := by rw [← e]; grind
  have e2 : p * (c + (x + y)) = c * p + p * x + p * y := by grind
  omega
/-- a product's round: V what out tells, P the base of its digit, o that digit -/
theorem mul_round (V c P o x y A : Int) (h : V + c * P = A) : V + P * ((c + (o + x * y)) % 4294967296 - o) + (c + (o + x * y)) / 4294967296 * (4294967296 * P) = A + P * (x * y) := by
  have e := Int.emod_add_mul_ediv (c + (o + x * y)) 4294967296
  generalize (c + (o + x * y)) % 4294967296 = r at *
  generalize (c + (o + x * y)) / 4294967296 = q at *
  have : P * r + q * (4294967296 * P) = P * (c + (o + x * y)) := by rw [← e]; grind
  have e2 : P * (c + (o + x * y)) = c * P + P * o + P * (x * y) := by grind
  have e3 : P * (r - o) = P * r - P * o := by grind
  omega
/-- a digit of a number moved right -/
def shd (a : List Int) (r i : Nat) : Int := (a.getD i 0 + a.getD (i + 1) 0 * 4294967296) / 2 ^ r % 4294967296
theorem shd_val : ∀ (a : List Int) (r : Nat), r ≤ 32 → dgs a → val ((List.range a.length).map (shd a r)) = val a / 2 ^ r
  | [], r, _, _ => by simp [val]
  | x :: xs, r, hr, h => by
    obtain ⟨⟨h1, h2⟩, h3⟩ := dgs_cons.1 h
    have ih := shd_val xs r hr h3
    have e1 : (List.range (x :: xs).length).map (shd (x :: xs) r) = shd (x :: xs) r 0 :: (List.range xs.length).map (shd xs r) := by
      rw [List.length_cons, List.range_succ_eq_map, List.map_cons, List.map_map]
      rfl
    rw [e1]
    simp only [val, ih]
    have e2 : shd (x :: xs) r 0 = (x + xs.getD 0 0 * 4294967296) / 2 ^ r % 4294967296 := rfl
    rw [e2]
    have e3 : val xs = xs.getD 0 0 + 4294967296 * val (xs.drop 1) := by have := val_drop_step xs 0; simpa using this
    obtain ⟨K, hK⟩ : ∃ K : Int, (4294967296 : Int) = 2 ^ r * K := ⟨2 ^ (32 - r), by
      rw [← Int.pow_add, show r + (32 - r) = 32 by omega]; decide⟩
    have hp : (0 : Int) < 2 ^ r := Int.pow_pos (by decide)
    have e4 : (x + 4294967296 * val xs) / 2 ^ r / 4294967296 = val xs / 2 ^ r := by
      rw [Int.ediv_ediv_of_nonneg (by omega), Int.mul_comm (2 ^ r : Int), ← Int.ediv_ediv_of_nonneg (by omega)]
      congr 1
      omega
    have e5 : (x + 4294967296 * val xs) / 2 ^ r % 4294967296 = (x + xs.getD 0 0 * 4294967296) / 2 ^ r % 4294967296 := by
      have : x + 4294967296 * val xs = (x + xs.getD 0 0 * 4294967296) + 2 ^ r * (K * (4294967296 * val (xs.drop 1))) := by
        rw [← Int.mul_assoc, ← hK, e3]; grind
      rw [this, Int.add_mul_ediv_left _ _ (by omega)]
      have : K * (4294967296 * val (xs.drop 1)) = 4294967296 * (K * val (xs.drop 1)) := by grind
      rw [this, Int.add_mul_emod_self_left]
    rw [← e5, ← e4]
    exact Int.emod_add_mul_ediv _ _
theorem shd_dgs (a : List Int) (r k : Nat) : dgs ((List.range k).map (shd a r)) := by
  intro x hx
  obtain ⟨i, -, rfl⟩ := List.mem_map.1 hx
  unfold shd
  omega
/-- all digits below i are zero, and those bits of digit i: then 2 to the power of 32 i + r divides the number -/
theorem shr_exact (a : List Int) (i r : Nat) (hr : r ≤ 32) (hz : ∀ j, j < i → a.getD j 0 = 0) (h0 : a.getD i 0 % 2 ^ r = 0) : val a % (2 ^ (32 * i + r)) = 0 := by
  have s1 := val_split a i
  have z : val (a.take i) = 0 := by
    have : val (a.take i) = val [] := val_congr _ _ fun j => by
      by_cases hj : j < i
      · simp [List.getD, hj]; simpa [List.getD] using hz j hj
      · have e : (a.take i)[j]? = none := by rw [List.getElem?_take, if_neg hj]
        simp [List.getD, e]
    rw [this]; rfl
  have d1 := val_drop_step a i
  obtain ⟨K, hK⟩ : ∃ K : Int, (4294967296 : Int) = 2 ^ r * K := ⟨2 ^ (32 - r), by
      rw [← Int.pow_add, show r + (32 - r) = 32 by omega]; decide⟩
  have e := Int.emod_add_mul_ediv (a.getD i 0) (2 ^ r)
  rw [h0] at e
  have hb : bse i = 2 ^ (32 * i) := by
    unfold bse
    rw [show (4294967296 : Int) = 2 ^ 32 by decide, ← Int.pow_mul]
  rw [s1, z, hb, d1, Int.pow_add]
  generalize val (a.drop (i + 1)) = V at *
  have : 0 + (2 : Int) ^ (32 * i) * (a.getD i 0 + 4294967296 * V) = 2 ^ (32 * i) * 2 ^ r * (a.getD i 0 / 2 ^ r + K * V) := by
    rw [hK]; generalize a.getD i 0 / 2 ^ r = u at *; rw [← e]; grind
  rw [this]
  exact Int.mul_emod_right _ _
theorem shr_whole (a : List Int) (i : Nat) (ha : dgs a) (h : a.length ≤ i) (r : Nat) : val a / (2 ^ (32 * i + r)) = 0 ∧ ((∀ j, j < a.length → a.getD j 0 = 0) → val a % (2 ^ (32 * i + r)) = 0) := by
  have hv := val_range ha
  have hb : bse a.length ≤ 2 ^ (32 * i + r) := by
    have : bse a.length = 2 ^ (32 * a.length) := by
      unfold bse
      rw [show (4294967296 : Int) = 2 ^ 32 by decide, ← Int.pow_mul]
    rw [this]
    have : 2 ^ (32 * a.length) ≤ 2 ^ (32 * i + r) := Nat.pow_le_pow_right (by decide) (by omega)
    exact_mod_cast this
  refine ⟨Int.ediv_eq_zero_of_lt hv.1 (by omega), fun hz => ?_⟩
  have : val a = val [] := val_congr _ _ fun j => by
    by_cases hj : j < a.length
    · rw [hz j hj]; rfl
    · simp [List.getD, Nat.le_of_not_lt hj]
  rw [this]; simp [val]
theorem shr_drop (a : List Int) (i : Nat) (ha : dgs a) (r : Nat) : val a / (2 ^ (32 * i + r)) = val (a.drop i) / 2 ^ r := by
  have hb : bse i = 2 ^ (32 * i) := by
    unfold bse
    rw [show (4294967296 : Int) = 2 ^ 32 by decide, ← Int.pow_mul]
  have s1 := val_split a i
  have t1 := take_lt ha i
  have p := bse_pos i
  rw [Int.pow_add, ← hb, ← Int.ediv_ediv_of_nonneg (by omega)]
  congr 1
  rw [s1, Int.add_mul_ediv_left _ _ (by omega), Int.ediv_eq_zero_of_lt t1.1 t1.2]
  omega
theorem natOf_val (n : Int) (h0 : 0 ≤ n) (h1 : n < 18446744073709551616) : val [n % 4294967296, n / 4294967296] = n ∧ dgs [n % 4294967296, n / 4294967296] := by
  refine ⟨by simp [val]; omega, ?_⟩
  refine dgs_cons.2 ⟨by omega, dgs_one (by omega) (by omega)⟩
theorem shl_val (z r : Nat) : val (List.replicate z 0 ++ [(2 : Int) ^ r, 0]) = 2 ^ (32 * z + r) := by
  have hb : bse z = 2 ^ (32 * z) := by
    unfold bse
    rw [show (4294967296 : Int) = 2 ^ 32 by decide, ← Int.pow_mul]
  rw [val_append, val_zeros]
  simp [val, hb, Int.pow_add]
end Go.Dv
