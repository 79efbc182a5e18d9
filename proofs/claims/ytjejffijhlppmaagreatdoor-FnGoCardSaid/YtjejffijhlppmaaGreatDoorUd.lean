/-
  The contracts of Udivisible, Sdivisible and of the reference's reading of a test.
-/
import Derived.Test.YtjejffijhlppmaaGreatDoorTz
namespace Go.Proofs.YtjejffijhlppmaaGreatDoor
set_option linter.unusedVariables false
open Go.Dv Go.RowKit

theorem ud0_any (n c d : Int) (hn : isW n) (h0 : 0 < d) (h1 : d < 18446744073709551616) (hd : low n c = d) (w : World) (hT : Tab w) :
    Calls Tryz.prog 44 #[.int .u64 n, .int .i64 c] w fun e w' =>
      e = .returned (.agg #[.int .i64 (tz d), .int .u64 (inv n (oddp d)), .int .u64 (msk n / d)]) ∧ w.alloc (.cells #[.int .i64 (tz d), .int .u64 (inv n (oddp d)), .int .u64 (msk n / d)] 67) = w' := by
  obtain ⟨g0, g1⟩ := isW_range hn
  obtain ⟨k0, k1, -⟩ := tz_spec d h0 h1
  have e : IntKind.u64.wrap (IntKind.u64.wrap c * 2 ^ (64 - n).toNat) / 2 ^ (64 - n).toNat = d := hd
  obtain ⟨D, hD⟩ : ∃ D, d / 2 ^ (tz d).toNat = D := ⟨_, rfl⟩
  have HD : Hid (oddp d = D) := hD
  have hN := nw_fold D
  have hM : Hid (msk n = 18446744073709551615 / 2 ^ (64 - n).toNat) := rfl
  have hT' : Tab (w.alloc (.cells #[.int .i64 0, .int .u64 0, .int .u64 0] 67)) := hT.alloc _
  have HQ : Hid (msk n / d = IntKind.u64.wrap (Int.tdiv (18446744073709551615 / 2 ^ (64 - n).toNat) d)) := (msk_quo hn h0).symm
  clear hT hd
  go_enter Tryz.func44, Tryz.ntmps44
  go_wp2_with (first | (go_at_call 57; refine (tz_any d h0 h1 _ hT').mono ?_; rintro e w' ⟨rfl, rfl⟩))
  refine bodyPost_ret (v := .agg #[.int .i64 (tz d), .int .u64 (bits BinOp.and IntKind.u64 (nw D (nw D (nw D (nw D (nw D D))))) (18446744073709551615 / 2 ^ (64 - n).toNat)), .int .u64 (IntKind.u64.wrap (Int.tdiv (18446744073709551615 / 2 ^ (64 - n).toNat) d))]) ?_ rfl ⟨?_, ?_⟩
  · simp [results, Tryz.results44, go_sem]
  · rw [HD.out, HQ.out]; rfl
  · rw [HD.out, HQ.out]; rfl

set_option maxHeartbeats 1000000 in
theorem ud1_any (n c d : Int) (hn : isW n) (h0 : 0 < d) (h1 : d < 18446744073709551616) (hd : low n c = d) (w : World) (hT : Tab w) :
    Calls Tryz.prog 38 #[.int .u64 n, .int .i64 c] w fun e w' =>
      e = .returned (.tuple #[.int .i64 (tz d), .int .u64 (inv n (oddp d)), .int .u64 (msk n / d)]) ∧ ∃ q, (((w.alloc (.cells #[.int .i64 (tz d), .int .u64 (inv n (oddp d)), .int .u64 (msk n / d)] 67)).alloc (.cells #[.int .i64 (tz d), .int .u64 (inv n (oddp d)), .int .u64 (msk n / d)] 67)).drewN q) = w' := by
  have hD := Lib.hid hd
  clear hd
  go_enter Tryz.func38, Tryz.ntmps38
  go_wp2_with (first | (go_at_call 44; refine (ud0_any n c d hn h0 h1 hD.out _ hT).mono ?_; rintro e w' ⟨rfl, rfl⟩))
  go_quiet (fail)
  go_wp2
  go_ret3
  exact ⟨rfl, _, rfl⟩

set_option maxHeartbeats 1000000 in
theorem udivisible_any (n c d : Int) (hn : isW n) (h0 : 0 < d) (h1 : d < 18446744073709551616) (hd : low n c = d) (w : World) (hT : Tab w) :
    Calls Tryz.prog 21 #[.int .u64 n, .int .i64 c] w fun e w' =>
      e = .returned (.agg #[.int .i64 (tz d), .int .u64 (inv n (oddp d)), .int .u64 0, .int .u64 (msk n / d)]) ∧ Below w.heap.size w w' := by
  have hD := Lib.hid hd
  have hT' := hT.alloc (.cells #[.int .i64 0, .int .u64 0, .int .u64 0, .int .u64 0] 36)
  clear hd
  go_enter Tryz.func21, Tryz.ntmps21
  go_wp2_with (first | (go_at_call 38; refine (ud1_any n c d hn h0 h1 hD.out _ hT').mono ?_; rintro e w' ⟨rfl, q, rfl⟩))
  refine bodyPost_ret (v := .agg #[.int .i64 (tz d), .int .u64 (inv n (oddp d)), .int .u64 0, .int .u64 (msk n / d)]) ?_ rfl ⟨rfl, ?_⟩
  · simp [results, Tryz.results21, go_sem]
  · repeat (first | exact Below.refl _ _ | refine Below.setCell ?_ (by simp) _ | refine Below.drew ?_ | refine below_drewN ?_ _ | refine Below.alloc ?_ (by simp <;> omega) _)

set_option maxHeartbeats 1000000 in
theorem sd0_any (n d : Int) (hn : isW n) (h0 : 0 < d) (h1 : d < 9223372036854775808) (w : World) (hT : Tab w) :
    Calls Tryz.prog 46 #[.int .u64 n, .int .i64 d] w fun e w' =>
      e = .returned (.agg #[.int .i64 (tz d), .int .u64 (inv n (oddp d)), .int .u64 (sdA n d), .int .u64 (sdM n d)]) ∧ w.alloc (.cells #[.int .i64 (tz d), .int .u64 (inv n (oddp d)), .int .u64 (sdA n d), .int .u64 (sdM n d)] 72) = w' := by
  obtain ⟨g0, g1⟩ := isW_range hn
  obtain ⟨k0, k1, -⟩ := tz_spec d h0 (by omega)
  obtain ⟨o1, -, -⟩ := oddp_pos d h0 (by omega)
  obtain ⟨D, hD⟩ : ∃ D, d / 2 ^ (tz d).toNat = D := ⟨_, rfl⟩
  have HD : Hid (oddp d = D) := hD
  have hDp : 0 < D := by rw [← HD.out]; exact o1
  have hN := nw_fold D
  have HA : Hid (sdA n d = bits BinOp.and IntKind.u64 (IntKind.u64.wrap (Int.tdiv (18446744073709551615 / 2 ^ (64 - n).toNat / 2) D)) (IntKind.u64.wrap (-IntKind.u64.wrap (2 ^ (tz d).toNat)))) := by
    show sdA n d = _
    rw [← HD.out]; rfl
  have hT' : Tab (w.alloc (.cells #[.int .i64 0, .int .u64 0, .int .u64 0, .int .u64 0] 72)) := hT.alloc _
  clear hT o1
  go_enter Tryz.func46, Tryz.ntmps46
  go_wp2_with (first | (go_at_call 57; refine (tz_any d h0 (by omega) _ hT').mono ?_; rintro e w' ⟨rfl, rfl⟩))
  refine bodyPost_ret (v := .agg #[.int .i64 (tz d), .int .u64 (bits BinOp.and IntKind.u64 (nw D (nw D (nw D (nw D (nw D D))))) (18446744073709551615 / 2 ^ (64 - n).toNat)), .int .u64 (bits BinOp.and IntKind.u64 (IntKind.u64.wrap (Int.tdiv (18446744073709551615 / 2 ^ (64 - n).toNat / 2) D)) (IntKind.u64.wrap (-IntKind.u64.wrap (2 ^ (tz d).toNat)))), .int .u64 (IntKind.u64.wrap (2 * bits BinOp.and IntKind.u64 (IntKind.u64.wrap (Int.tdiv (18446744073709551615 / 2 ^ (64 - n).toNat / 2) D)) (IntKind.u64.wrap (-IntKind.u64.wrap (2 ^ (tz d).toNat)))) / 2 ^ (tz d).toNat)]) ?_ rfl ⟨?_, ?_⟩
  · simp [results, Tryz.results46, go_sem]
  · unfold sdM; rw [HD.out, HA.out]; rfl
  · unfold sdM; rw [HD.out, HA.out]; rfl

set_option maxHeartbeats 1000000 in
theorem sd1_any (n d : Int) (hn : isW n) (h0 : 0 < d) (h1 : d < 9223372036854775808) (w : World) (hT : Tab w) :
    Calls Tryz.prog 42 #[.int .u64 n, .int .i64 d] w fun e w' =>
      e = .returned (.tuple #[.int .i64 (tz d), .int .u64 (inv n (oddp d)), .int .u64 (sdA n d), .int .u64 (sdM n d)]) ∧ ∃ q, (((w.alloc (.cells #[.int .i64 (tz d), .int .u64 (inv n (oddp d)), .int .u64 (sdA n d), .int .u64 (sdM n d)] 72)).alloc (.cells #[.int .i64 (tz d), .int .u64 (inv n (oddp d)), .int .u64 (sdA n d), .int .u64 (sdM n d)] 72)).drewN q) = w' := by
  go_enter Tryz.func42, Tryz.ntmps42
  go_wp2_with (first | (go_at_call 46; refine (sd0_any n d hn h0 h1 _ hT).mono ?_; rintro e w' ⟨rfl, rfl⟩))
  go_quiet (fail)
  go_wp2
  refine bodyPost_ret (v := .tuple #[.int .i64 (tz d), .int .u64 (inv n (oddp d)), .int .u64 (sdA n d), .int .u64 (sdM n d)]) ?_ rfl ⟨rfl, _, rfl⟩
  simp [results, Tryz.results42, go_sem]

set_option maxHeartbeats 1000000 in
theorem sdivisible_any (n d : Int) (hn : isW n) (h0 : 0 < d) (h1 : d < 9223372036854775808) (w : World) (hT : Tab w) :
    Calls Tryz.prog 27 #[.int .u64 n, .int .i64 d] w fun e w' =>
      e = .returned (.agg #[.int .i64 (tz d), .int .u64 (inv n (oddp d)), .int .u64 (sdA n d), .int .u64 (sdM n d)]) ∧ Below w.heap.size w w' := by
  have hT' := hT.alloc (.cells #[.int .i64 0, .int .u64 0, .int .u64 0, .int .u64 0] 36)
  go_enter Tryz.func27, Tryz.ntmps27
  go_wp2_with (first | (go_at_call 42; refine (sd1_any n d hn h0 h1 _ hT').mono ?_; rintro e w' ⟨rfl, q, rfl⟩))
  refine bodyPost_ret (v := .agg #[.int .i64 (tz d), .int .u64 (inv n (oddp d)), .int .u64 (sdA n d), .int .u64 (sdM n d)]) ?_ rfl ⟨rfl, ?_⟩
  · simp [results, Tryz.results27, go_sem]
  · repeat (first | exact Below.refl _ _ | refine Below.setCell ?_ (by simp) _ | refine Below.drew ?_ | refine below_drewN ?_ _ | refine Below.alloc ?_ (by simp <;> omega) _)
end Go.Proofs.YtjejffijhlppmaaGreatDoor
