/-
  What umagic and smagic do to M, as contracts by the number of words: 2 to the power of n + s, and C more, 1 less, by C.
-/
import Derived.Test.YtjejffijhlppmaaGreatDoorNb
import Derived.Test.YtjejffijhlppmaaGreatDoorBt
import Derived.Test.YtjejffijhlppmaaGreatDoorBr
import Derived.Test.YtjejffijhlppmaaGreatDoorBs
import Derived.Test.YtjejffijhlppmaaGreatDoorBq
namespace Go.Dv
theorem andNot_top (i t : Nat) (hi : i < 64) (ht : t < 2 ^ i) : (2 ^ i + t) &&& (2 ^ 64 - (2 ^ i + 1)) = t := by
  apply Nat.eq_of_testBit_eq
  intro j
  have hlt : 2 ^ i < 2 ^ 64 := Nat.pow_lt_pow_right (by omega) hi
  rw [Nat.testBit_and, Nat.testBit_two_pow_sub_succ hlt, Nat.testBit_two_pow]
  by_cases h1 : j < i
  · rw [Nat.testBit_two_pow_add_gt h1]
    have : j < 64 := by omega
    have h2 : i ≠ j := by omega
    simp [this, h2]
  · have e : t.testBit j = false := Nat.testBit_lt_two_pow (Nat.lt_of_lt_of_le ht (Nat.pow_le_pow_right (by omega) (by omega)))
    rw [e]
    by_cases h2 : i = j
    · simp [h2]
    · have : 2 ^ i + t < 2 ^ j := by
        have h3 : 2 ^ (i + 1) ≤ 2 ^ j := Nat.pow_le_pow_right (by omega) (by omega)
        rw [Nat.pow_succ] at h3; omega
      rw [Nat.testBit_lt_two_pow this]; simp
theorem and63 (r : Int) (h0 : 0 ≤ r) (h1 : r ≤ 63) : bits .and .u64 r 63 = r := by
  rw [u64_and r 63 h0 (by omega) (by omega) (by omega)]
  have : r.toNat &&& (63 : Int).toNat = r.toNat % 64 := Nat.and_two_pow_sub_one_eq_mod r.toNat 6
  rw [this]; omega
/-- the bits about bit n of a number of n or n + 1 bits -/
theorem top_bit (n : Int) (h0 : 0 < n) (h1 : n < 64) (q : Int) (a : 2 ^ n.toNat ≤ q) (b : q < 2 * 2 ^ n.toNat) (c : q < 18446744073709551616) :
    bits .and .u64 (q / 2 ^ n.toNat) 1 = 1 ∧ bits .andNot .u64 q (2 ^ n.toNat) = q - 2 ^ n.toNat := by
  have hp : (0 : Int) < 2 ^ n.toNat := Int.pow_pos (by decide)
  have e := ediv_one q (2 ^ n.toNat) a (by omega)
  refine ⟨by rw [e.1]; decide, ?_⟩
  have hlt : (2 : Int) ^ n.toNat < 18446744073709551616 := by omega
  rw [u64_andNot q _ (by omega) c (by omega) hlt]
  have h2 : ((2 ^ n.toNat : Nat) : Int) = (2 : Int) ^ n.toNat := Int.natCast_pow 2 _
  have h3 := andNot_top n.toNat (q.toNat - 2 ^ n.toNat) (by omega) (by omega)
  have h4 : 2 ^ n.toNat + (q.toNat - 2 ^ n.toNat) = q.toNat := by omega
  rw [h4] at h3
  have h5 : ((2 : Int) ^ n.toNat).toNat = 2 ^ n.toNat := by omega
  rw [h5]
  have h6 : 18446744073709551615 - 2 ^ n.toNat = 2 ^ 64 - (2 ^ n.toNat + 1) := by omega
  rw [h6, h3]; omega
end Go.Dv
namespace Go.Proofs.YtjejffijhlppmaaGreatDoor
open Go.Dv Go.RowKit
set_option linter.unusedVariables false
/-- the four steps on M -/
structure Ops (n d s : Int) (nL capL nD : Nat) (cL cA cS cD : Array Value) : Prop where
  lsh : ∀ B w0 w c cw p a, MS B w0 w c cw p a d 1 1 #[.int .u64 1] → Calls Tryz.prog 50 #[.pointer (some ⟨p, 0, none⟩), .pointer (some ⟨p, 0, none⟩), .int .u64 (n + s)] w fun e w' => e = .returned (.pointer (some ⟨p, 0, none⟩)) ∧ ∃ a', MS B w0 w' c cw p a' d nL capL cL
  add : ∀ B w0 w c cw p a, MS B w0 w c cw p a d nL capL cL → Calls Tryz.prog 51 #[.pointer (some ⟨p, 0, none⟩), .pointer (some ⟨p, 0, none⟩), .pointer (some ⟨c, 0, none⟩)] w fun e w' => e = .returned (.pointer (some ⟨p, 0, none⟩)) ∧ MS B w0 w' c cw p a d nL capL cA
  sub : ∀ B w0 w c cw p a q yb, MS B w0 w c cw p a d nL capL cA → w.heap[q]? = some (.cells #[.bool false, .slice (some ⟨yb, 0, none⟩) 1 1] 78 (0, 0)) → w.heap[yb]? = some (.cells #[.int .u64 1] 89 (0, 0)) → a ≠ yb → Calls Tryz.prog 52 #[.pointer (some ⟨p, 0, none⟩), .pointer (some ⟨p, 0, none⟩), .pointer (some ⟨q, 0, none⟩)] w fun e w' => e = .returned (.pointer (some ⟨p, 0, none⟩)) ∧ MS B w0 w' c cw p a d nL capL cS
  div : ∀ B w0 w c cw p a, MS B w0 w c cw p a d nL capL cS → Calls Tryz.prog 53 #[.pointer (some ⟨p, 0, none⟩), .pointer (some ⟨p, 0, none⟩), .pointer (some ⟨c, 0, none⟩)] w fun e w' => e = .returned (.pointer (some ⟨p, 0, none⟩)) ∧ MS B w0 w' c cw p a d nD capL cD

theorem opsA (n d s T Q : Int) (h0 : 1 ≤ n + s) (h1 : n + s ≤ 63) (hT : 2 ^ (n + s).toNat = T) (d0 : 1 < d) (d1 : d < 4294967296) (hQ : (T + d - 1) / d = Q) (hz : Q ≠ 0) :
    Ops n d s 1 6 1 #[.int .u64 T, .int .u64 0, .int .u64 0, .int .u64 0, .int .u64 0, .int .u64 0] #[.int .u64 (T + d), .int .u64 0, .int .u64 0, .int .u64 0, .int .u64 0, .int .u64 0] #[.int .u64 (T + d - 1), .int .u64 0, .int .u64 0, .int .u64 0, .int .u64 0, .int .u64 0] #[.int .u64 Q, .int .u64 0, .int .u64 0, .int .u64 0, .int .u64 0, .int .u64 0] := by
  have hp : 0 < T := by rw [← hT]; exact Int.pow_pos (by decide)
  have hp2 : T ≤ 9223372036854775808 := by
    rw [← hT]; exact two_pow_le (b := 63) (by omega)
  have hw : IntKind.u64.wrap (2 ^ (n + s).toNat) = T := by rw [hT, IntKind.wrap_u64]; omega
  have hd2 : (1 : Int) / 2 ^ (64 - (n + s)).toNat = 0 := by
    have : (2 : Int) ^ 1 ≤ 2 ^ (64 - (n + s)).toNat := two_pow_le (by omega)
    exact Int.ediv_eq_zero_of_lt (by omega) (by omega)
  refine ⟨fun B w0 w c cw p a h => ?_, fun B w0 w c cw p a h => ?_, fun B w0 w c cw p a q yb h hq hy hne => ?_, fun B w0 w c cw p a h => ?_⟩
  · exact lshM_01 (n + s) h (by omega) (by omega) (by omega) (n + s) (by omega) (by omega) (by omega) (and63 _ (by omega) (by omega)) (and63 _ (by omega) (by omega)) T hw hd2 (by simp; omega)
  · exact addM_1 T (T + d) h (by omega) (by omega) (by omega) (by omega) (by omega) rfl (by simp; omega)
  · exact subM_1 q yb (T + d) (T + d - 1) h (by omega) (by omega) (by omega) rfl (by simp; omega) (by omega) hq hy hne
  · exact intDivW_1 1 (T + d - 1) 0 0 0 0 0 Q _ h (by omega) (by omega) d0 (by omega) hQ rfl (by omega) (by omega) (fun j a b => by omega) (by show (Q == 0) = false; simpa using hz)

theorem opsB (n d s Q : Int) (h0 : n + s = 64) (d0 : 1 < d) (d1 : d < 18446744073709551616) (hQ : (18446744073709551616 + (d - 1)) / d = Q) (hz : Q ≠ 0) :
    Ops n d s 2 7 1 #[.int .u64 0, .int .u64 1, .int .u64 0, .int .u64 0, .int .u64 0, .int .u64 0, .int .u64 0] #[.int .u64 d, .int .u64 1, .int .u64 0, .int .u64 0, .int .u64 0, .int .u64 0, .int .u64 0] #[.int .u64 (d - 1), .int .u64 1, .int .u64 0, .int .u64 0, .int .u64 0, .int .u64 0, .int .u64 0] #[.int .u64 Q, .int .u64 0, .int .u64 0, .int .u64 0, .int .u64 0, .int .u64 0, .int .u64 0] := by
  have q1 : (1 : Int) / d = 0 := Int.ediv_eq_zero_of_lt (by omega) d0
  have r1 : (1 : Int) % d = 1 := Int.emod_eq_of_lt (by omega) d0
  refine ⟨fun B w0 w c cw p a h => ?_, fun B w0 w c cw p a h => ?_, fun B w0 w c cw p a q yb h hq hy hne => ?_, fun B w0 w c cw p a h => ?_⟩
  · exact lshM_10 (n + s) h (by omega) (by omega) (by omega) (by omega)
  · exact addM_2 0 1 d h (by omega) (by omega) (by omega) (by omega) (by omega) (by omega) (by omega) (by omega) rfl
  · exact subM_2 q yb d 1 (d - 1) h (by omega) (by omega) (by omega) (by omega) (by omega) rfl rfl hq hy hne
  · exact intDivW_2 1 (d - 1) 1 0 0 0 0 0 0 1 Q _ h (by omega) (by omega) (by omega) (by omega) d0 (by omega) q1 r1 (by rw [← hQ]; congr 1) rfl (by omega) (by omega) (fun j a b => by obtain rfl : j = 1 := (by omega); rfl) (by show (Q == 0) = false; simpa using hz)

theorem opsC (n d s T q1 r1 q0 : Int) (i : Nat) (h0 : 65 ≤ n + s) (h1 : n + s ≤ 127) (hT : 2 ^ (n + s - 64).toNat = T) (d0 : 1 < d) (d1 : d < 18446744073709551616) (e1 : T / d = q1) (e2 : T % d = r1) (e0 : (r1 * 18446744073709551616 + (d - 1)) / d = q0)
    (hi : (i = 1 ∧ q1 = 0 ∧ q0 ≠ 0) ∨ (i = 2 ∧ q1 ≠ 0)) :
    Ops n d s 2 7 i #[.int .u64 0, .int .u64 T, .int .u64 0, .int .u64 0, .int .u64 0, .int .u64 0, .int .u64 0] #[.int .u64 d, .int .u64 T, .int .u64 0, .int .u64 0, .int .u64 0, .int .u64 0, .int .u64 0] #[.int .u64 (d - 1), .int .u64 T, .int .u64 0, .int .u64 0, .int .u64 0, .int .u64 0, .int .u64 0] #[.int .u64 q0, .int .u64 q1, .int .u64 0, .int .u64 0, .int .u64 0, .int .u64 0, .int .u64 0] := by
  have hp : 0 < T := by rw [← hT]; exact Int.pow_pos (by decide)
  have hp2 : T ≤ 9223372036854775808 := by
    rw [← hT]; exact two_pow_le (b := 63) (by omega)
  have hw : IntKind.u64.wrap (2 ^ (n + s - 64).toNat) = T := by rw [hT, IntKind.wrap_u64]; omega
  have hd2 : (1 : Int) / 2 ^ (64 - (n + s - 64)).toNat = 0 := by
    have : (2 : Int) ^ 1 ≤ 2 ^ (64 - (n + s - 64)).toNat := two_pow_le (by omega)
    exact Int.ediv_eq_zero_of_lt (by omega) (by omega)
  refine ⟨fun B w0 w c cw p a h => ?_, fun B w0 w c cw p a h => ?_, fun B w0 w c cw p a q yb h hq hy hne => ?_, fun B w0 w c cw p a h => ?_⟩
  · exact lshM_11 (n + s) h (by omega) (by omega) (by omega) (n + s - 64) (by omega) (by omega) (by omega) (and63 _ (by omega) (by omega)) (and63 _ (by omega) (by omega)) T hw hd2 (by simp; omega)
  · exact addM_2 0 T d h (by omega) (by omega) (by omega) (by omega) (by omega) (by omega) (by omega) (by omega) (by simp; omega)
  · exact subM_2 q yb d T (d - 1) h (by omega) (by omega) (by omega) (by omega) (by omega) rfl (by simp; omega) hq hy hne
  · refine intDivW_2 i (d - 1) T 0 0 0 0 0 q1 r1 q0 _ h (by omega) (by omega) (by omega) (by omega) d0 (by omega) e1 e2 e0 rfl (by omega) (by omega) (fun j a b => ?_) ?_
    · rcases hi with ⟨rfl, g, -⟩ | ⟨rfl, -⟩
      · obtain rfl : j = 1 := by omega
        exact g
      · omega
    · rcases hi with ⟨rfl, -, g⟩ | ⟨rfl, g⟩
      · show (q0 == 0) = false; simpa using g
      · show (q1 == 0) = false; simpa using g

theorem opsD (n d s r1 q0 : Int) (h0 : n + s = 128) (d0 : 1 < d) (d1 : d < 18446744073709551616) (e1 : (18446744073709551616 : Int) / d = 1) (e2 : (18446744073709551616 : Int) % d = r1) (e0 : (r1 * 18446744073709551616 + (d - 1)) / d = q0) :
    Ops n d s 3 8 2 #[.int .u64 0, .int .u64 0, .int .u64 1, .int .u64 0, .int .u64 0, .int .u64 0, .int .u64 0, .int .u64 0] #[.int .u64 d, .int .u64 0, .int .u64 1, .int .u64 0, .int .u64 0, .int .u64 0, .int .u64 0, .int .u64 0] #[.int .u64 (d - 1), .int .u64 0, .int .u64 1, .int .u64 0, .int .u64 0, .int .u64 0, .int .u64 0, .int .u64 0] #[.int .u64 q0, .int .u64 1, .int .u64 0, .int .u64 0, .int .u64 0, .int .u64 0, .int .u64 0, .int .u64 0] := by
  have k1 : (1 : Int) / d = 0 := Int.ediv_eq_zero_of_lt (by omega) d0
  have k2 : (1 : Int) % d = 1 := Int.emod_eq_of_lt (by omega) d0
  refine ⟨fun B w0 w c cw p a h => ?_, fun B w0 w c cw p a h => ?_, fun B w0 w c cw p a q yb h hq hy hne => ?_, fun B w0 w c cw p a h => ?_⟩
  · exact lshM_20 (n + s) h (by omega) (by omega) (by omega) (by omega)
  · exact addM_3 0 0 1 d h (by omega) (by omega) (by omega) (by omega) (by omega) (by omega) (by omega) (by omega) (by omega) (by omega) rfl
  · exact subM_3 q yb d 0 1 (d - 1) h (by omega) (by omega) (by omega) (by omega) (by omega) (by omega) (by omega) rfl rfl hq hy hne
  · exact intDivW_3 2 (d - 1) 0 1 0 0 0 0 0 0 1 1 r1 q0 _ h (by omega) (by omega) (by omega) (by omega) (by omega) (by omega) d0 (by omega) k1 k2 (by simpa using e1) (by simpa using e2) e0 rfl (by omega) (by omega) (fun j a b => by obtain rfl : j = 2 := (by omega); rfl) rfl
end Go.Proofs.YtjejffijhlppmaaGreatDoor
