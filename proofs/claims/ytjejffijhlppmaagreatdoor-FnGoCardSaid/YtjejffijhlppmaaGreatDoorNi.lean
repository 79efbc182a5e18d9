/-
  The contracts of Log and of Unsigned.
-/
import Derived.Test.YtjejffijhlppmaaGreatDoorNh
import Derived.Test.YtjejffijhlppmaaGreatDoorNb
import Derived.Deep.RegionWith
namespace Go.Proofs.YtjejffijhlppmaaGreatDoor
open Go.Dv Go.RowKit
set_option linter.unusedVariables false

theorem log_step (d : Int) (h0 : 0 < d) (h1 : d < 18446744073709551616) (hp : pt d.toNat = true) (j : Nat) (hj : (j : Int) ≤ blen d) :
    0 ≤ (d - 1) / 2 ^ j ∧ (d - 1) / 2 ^ j < 18446744073709551616 ∧ (d - 1) / 2 ^ j / 2 = (d - 1) / 2 ^ (j + 1) ∧ ((j : Int) < blen d → 0 < (d - 1) / 2 ^ j) ∧ (¬ (j : Int) < blen d → (d - 1) / 2 ^ j = 0) := by
  obtain ⟨a1, a2, a3, a4, a5, a6, a7⟩ := ts_spec d h0 h1 hp
  have hq : (0 : Int) < 2 ^ j := Int.pow_pos (by decide)
  have q1 : 0 ≤ (d - 1) / 2 ^ j := Int.ediv_nonneg (by omega) (by omega)
  have q2 : (d - 1) / 2 ^ j ≤ d - 1 := Int.ediv_le_self _ (by omega)
  refine ⟨q1, by omega, ?_, fun h => ?_, fun h => ?_⟩
  · rw [Int.ediv_ediv_of_nonneg (by omega), Int.pow_succ]
  · have : (2 : Int) ^ j ≤ ths d := two_pow_le (by omega)
    have h2 : 1 ≤ (d - 1) / 2 ^ j := (Int.le_ediv_iff_mul_le hq).2 (by omega)
    omega
  · have : (2 : Int) ^ j = ts d := by unfold ts; congr 1; omega
    rw [this]
    exact Int.ediv_eq_zero_of_lt (by omega) (by omega)
theorem log_any (d : Int) (h0 : 0 < d) (h1 : d < 18446744073709551616) (hp : pt d.toNat = true) (w : World) :
    Calls Tryz.prog 28 #[.int .u64 d] w fun e w' => e = .returned (.int .i64 (blen d)) ∧ w = w' := by
  have hb := blen_range d h0 h1
  have HP := Lib.hid hp
  clear hp
  go_enter Tryz.func28, Tryz.ntmps28
  go_wp2
  go_loop [3, 4] (fun s k => ∃ j : Nat, (j : Int) ≤ blen d ∧ s = .int .i64 j ∧ k = .int .u64 ((d - 1) / 2 ^ j)) (fun s _ => (blen d - intOf s).toNat)
  case atStart => exact ⟨0, by omega, rfl, by simp⟩
  case round =>
    obtain ⟨j, hj, rfl, rfl⟩ := hrel
    obtain ⟨p0, p1, p2, p3, p4⟩ := log_step d h0 h1 HP.out j hj
    by_cases hlt : (j : Int) < blen d
    · have hpos := p3 hlt
      have P2 := Lib.hid p2
      clear p2 p3 p4
      go_wp2
      go_round
      case rel => exact ⟨j + 1, by omega, by go_num, by rw [P2.out]⟩
      case measure => simp [intOf]; omega
    · have hpos := p4 hlt
      have HJ : Hid ((j : Int) = blen d) := Lib.hid (by omega)
      clear p2 p3 p4 p0 p1
      go_wp2
      go_ret
      exact ⟨ret_int HJ.out, rfl⟩

/-- 1 moved left -/
theorem natShl_any (v : Value) (N : Int) (h0 : 0 ≤ N) (h1 : N ≤ 300) (w : World) (h : RL w v [1]) :
    Calls Tryz.prog 33 #[v, .int .i64 N] w (NRet 12 (2 ^ N.toNat) w) := by
  obtain ⟨z, r, e1, hr, hz, e2⟩ := shr_split N h0 h1
  rw [e2]
  exact (natShl_one v z r N e1 hr hz w h).mono fun e w' h => h.mono (by omega)
theorem lit_one (w : World) (t : TypeId) : RL (w.alloc (.cells #[.int .u32 1] t)) (.slice (some ⟨w.heap.size, 0, none⟩) 1 1) [1] :=
  RL.lit w [1] t _ 1 rfl (fun j hj => by obtain rfl : j = 0 := by omega
                                         rfl)

set_option maxHeartbeats 2000000 in
set_option maxRecDepth 100000 in
theorem unsigned_any (n s m x : Int) (hn : isW n) (s0 : 0 ≤ s) (s1 : s ≤ 64) (m0 : 0 ≤ m) (m1 : m < 18446744073709551616) (x0 : 0 ≤ x) (x1 : x < 18446744073709551616) (w : World) :
    Calls Tryz.prog 18 #[.int .u64 n, .agg #[.int .i64 s, .int .u64 m], .int .u64 x] w (NRet 15 (x * (m + pw n) / 2 ^ (n + s).toNat) w) := by
  obtain ⟨n0, n1⟩ := isW_range hn
  have hpw : 0 < pw n := Int.pow_pos (by decide)
  have HP : Hid ((2 : Int) ^ n.toNat = pw n) := Lib.hid rfl
  have hpos : 0 < m + pw n := by omega
  clear hn
  have hb0 : Below w.heap.size w (w.alloc (.cells #[.int .i64 s, .int .u64 m] 32)) := (Below.refl _ _).alloc (Nat.le_refl _) _
  go_enter Tryz.func18, Tryz.ntmps18
  go_wp2_with fail
  refine (natOf_any m m0 m1 _).mono ?_
  rintro e w1 ⟨v1, rfl, nv1, hb1⟩
  have hz1 : w.heap.size < w1.heap.size := by have := hb1.size; simp at this; omega
  go_wp2_with fail
  refine (natShl_any _ n (by omega) (by omega) _ (lit_one _ _)).mono ?_
  rintro e w2 ⟨v2, rfl, nv2, hb2⟩
  rw [HP.out] at nv2
  have hz2 : w.heap.size < w2.heap.size := by have := hb2.size; simp at this; omega
  have hb2' := (Below.refl w1.heap.size w1).alloc (Nat.le_refl _) (.cells #[.int .u32 1] 50) |>.trans (hb2.mono (by simp))
  go_wp2_with fail
  refine (natAdd_any _ _ 2 12 12 _ _ (by omega) (by omega) (by omega) _ (nv1.below hb2') nv2).mono ?_
  rintro e w3 ⟨v3, rfl, nv3, hb3⟩
  have hz3 : w.heap.size < w3.heap.size := Nat.lt_of_lt_of_le hz2 hb3.size
  have hb13 := (hb1.trans (hb2'.mono (by simp; omega))).trans (hb3.mono (by simp; omega))
  have k3 : w3.cell? ⟨w.heap.size, 0, none⟩ = some (.int .i64 s) := (hb13.cell (p := ⟨w.heap.size, 0, none⟩) (by simp)).trans (by rw [World.cell?_alloc_at _ _ _ _ rfl]; rfl)
  have hb03 := Lib.hid (hb0.trans (hb13.mono (by simp)))
  have q1 : IntKind.i64.wrap (n + s) = n + s := IntWalk.i64_in _ (by omega)
  have q2 : IntKind.i64.wrap n = n := IntWalk.i64_in _ (by omega)
  have hns0 : 0 ≤ n + s := by omega
  have hns1 : n + s ≤ 300 := by omega
  clear hb13 hb1 hb2 hb2' hb3 nv1 nv2 hb0
  go_wp2_with fail
  go_region_with (first
    | (go_at_call 22; refine (natOf_any x x0 x1 _).mono ?_; rintro e w4 ⟨v4, rfl, nv4, hb4⟩; have k4 : w4.cell? ⟨w.heap.size, 0, none⟩ = some (.int .i64 s) := (hb4.cell (p := ⟨w.heap.size, 0, none⟩) hz3).trans k3; have hz4 : w.heap.size < w4.heap.size := Nat.lt_of_lt_of_le hz3 hb4.size; have hb34 := (Below.refl w3.heap.size w3).drew.trans hb4)
    | (go_at_call 31; refine (natMul_any _ _ 2 13 x (m + pw n) (by omega) (by omega) hpos _ nv4 (nv3.below hb34)).mono ?_; rintro e w5 ⟨v5, rfl, nv5, hb5⟩; have k5 : w5.cell? ⟨w.heap.size, 0, none⟩ = some (.int .i64 s) := (hb5.cell (p := ⟨w.heap.size, 0, none⟩) hz4).trans k4; have hz5 : w.heap.size < w5.heap.size := Nat.lt_of_lt_of_le hz4 hb5.size)
    | (go_at_call 35; refine (natShr_any _ 15 _ (n + s) (by omega) hns0 hns1 _ nv5).mono ?_; rintro e w6 ⟨v6, ex, rfl, nv6, hx6, hb6⟩))
  all_goals go_wp2
  all_goals go_ret
  all_goals exact ⟨_, rfl, nv6, (hb03.out.trans (hb34.mono (by omega))).trans ((hb5.mono (by omega)).trans (hb6.mono (by omega)))⟩
end Go.Proofs.YtjejffijhlppmaaGreatDoor
