/-
  The contracts of Umagic and Smagic of the thin package.
-/
import Derived.Test.YtjejffijhlppmaaGreatDoorBv
namespace Go.Proofs.YtjejffijhlppmaaGreatDoor
open Go.Dv Go.RowKit
set_option linter.unusedVariables false

theorem umagic_any (n c d : Int) (hn : isW n) (hd : low n c = d) (d0 : 0 < d) (d1 : d < pw n) (hp : pt d.toNat = true) (w : World) :
    Calls Tryz.prog 43 #[.int .u64 n, .int .i64 c] w fun e w' => e = .returned (.agg #[.int .i64 (blen d), .int .u64 (umg n d)]) ∧ Below w.heap.size w w' := by
  have hw := pw_cases hn
  have d2 : d < 18446744073709551616 := by omega
  obtain ⟨a1, a2, a3, a4, a5, a6, a7⟩ := ts_spec d d0 d2 hp
  obtain ⟨u0, u1⟩ := umg_range hn d d0 d1 hp
  have hle := (blen_le hn d d0 d2 hp).1 d1
  have hdd : 1 < d := by have := pt_ge d d0 hp; omega
  have hQ : (pw n * ts d + d - 1) / d = umg n d + pw n := by unfold umg; omega
  have hpt := (pw_ts hn d d0 d2 hp).1
  by_cases hA : n ≤ 32 ∧ n + blen d ≤ 63
  · obtain ⟨hA1, hA2⟩ := hA
    obtain ⟨n0, n1⟩ := isW_range hn
    have hb := top_bit n (by omega) (by omega) (umg n d + pw n) (by show pw n ≤ _; omega) (by show _ < 2 * pw n; omega) (by omega)
    have hwr : IntKind.u64.wrap (2 ^ n.toNat) = pw n := by show IntKind.u64.wrap (pw n) = pw n; rw [IntKind.wrap_u64]; omega
    refine umagic_of n c d (blen d) (umg n d) 1 6 1 _ _ _ _ hn hd d0 d2 rfl (by omega) (by omega)
      (opsA n d (blen d) (pw n * ts d) (umg n d + pw n) (by omega) hA2 hpt.symm hdd (by omega) hQ (by omega)) (fun B w0 w c cw p a h => ?_) (fun B w0 w c cw p a h => ?_) w
    · exact intBit_A h (umg n d + pw n) n 1 (by omega) (by omega) rfl hb.1
    · exact intSetBit_1 h (by omega) (umg n d + pw n) n (pw n) (umg n d) (by omega) (by omega) rfl hwr (by have h2 := hb.2; change bits .andNot .u64 _ (pw n) = _ - pw n at h2; rw [h2]; omega) (by simp; omega)
  · by_cases hB : n = 32
    · subst hB
      have hb32 : blen d = 32 := by omega
      have hpw : pw 32 = 4294967296 := rfl
      have hts : ts d = 4294967296 := by unfold ts; rw [hb32]; rfl
      have hb := top_bit 32 (by omega) (by omega) (umg 32 d + pw 32) (by show pw 32 ≤ _; omega) (by show _ < 2 * pw 32; omega) (by omega)
      have hwr : IntKind.u64.wrap (2 ^ (32 : Int).toNat) = pw 32 := by decide
      refine umagic_of 32 c d (blen d) (umg 32 d) 2 7 1 _ _ _ _ hn hd d0 d2 rfl (by omega) (by omega)
        (opsB 32 d (blen d) (umg 32 d + pw 32) (by omega) hdd d2 (by rw [← hQ, hpw, hts]; congr 1; omega) (by omega)) (fun B w0 w c cw p a h => ?_) (fun B w0 w c cw p a h => ?_) w
      · exact intBit_A h (umg 32 d + pw 32) 32 1 (by omega) (by omega) rfl hb.1
      · exact intSetBit_1 h (by omega) (umg 32 d + pw 32) 32 (pw 32) (umg 32 d) (by omega) (by omega) rfl hwr (by have h2 := hb.2; change bits .andNot .u64 _ (pw 32) = _ - pw 32 at h2; rw [h2]; omega) (by simp; omega)
    · have hn64 : n = 64 := by
        unfold isW at hn; omega
      subst hn64
      have hpw : pw 64 = 18446744073709551616 := rfl
      by_cases hC : blen d ≤ 63
      · have hT : (2 : Int) ^ (64 + blen d - 64).toNat = ts d := by unfold ts; congr 1; omega
        obtain ⟨e1, e2⟩ := ediv_one (ts d) d (by omega) a4
        have e0 : (ts d % d * 18446744073709551616 + (d - 1)) / d = umg 64 d := by
          have h := long_div 18446744073709551616 (ts d) (d - 1) d d0
          rw [e1] at h
          have h2 : pw 64 * ts d + d - 1 = ts d * 18446744073709551616 + (d - 1) := by rw [hpw, Int.mul_comm]; omega
          rw [h2, h, hpw] at hQ
          omega
        refine umagic_of 64 c d (blen d) (umg 64 d) 2 7 2 _ _ _ _ hn hd d0 d2 rfl (by omega) (by omega)
          (opsC 64 d (blen d) (ts d) 1 (ts d % d) (umg 64 d) 2 (by omega) (by omega) hT hdd d2 e1 rfl e0 (.inr ⟨rfl, by decide⟩)) (fun B w0 w c cw p a h => ?_) (fun B w0 w c cw p a h => ?_) w
        · exact intBit_B h 1 1 rfl (by decide)
        · exact intSetBit_2 h (by omega) (umg 64 d) rfl rfl (by simp; omega)
      · have hts : ts d = 18446744073709551616 := by unfold ts; rw [show blen d = 64 by omega]; rfl
        obtain ⟨e1, e2⟩ := ediv_one 18446744073709551616 d (by omega) (by omega)
        have e0 : ((18446744073709551616 : Int) % d * 18446744073709551616 + (d - 1)) / d = umg 64 d := by
          have h := long_div 18446744073709551616 18446744073709551616 (d - 1) d d0
          rw [e1] at h
          have h2 : pw 64 * ts d + d - 1 = 18446744073709551616 * 18446744073709551616 + (d - 1) := by rw [hpw, hts]; omega
          rw [h2, h, hpw] at hQ
          omega
        refine umagic_of 64 c d (blen d) (umg 64 d) 3 8 2 _ _ _ _ hn hd d0 d2 rfl (by omega) (by omega)
          (opsD 64 d (blen d) (18446744073709551616 % d) (umg 64 d) (by omega) hdd d2 e1 rfl e0) (fun B w0 w c cw p a h => ?_) (fun B w0 w c cw p a h => ?_) w
        · exact intBit_B h 1 1 rfl (by decide)
        · exact intSetBit_2 h (by omega) (umg 64 d) rfl rfl (by simp; omega)

theorem smagic_any (n d : Int) (hn : isW n) (d0 : 0 < d) (d1 : d < pw n / 2) (hp : pt d.toNat = true) (w : World) :
    Calls Tryz.prog 45 #[.int .u64 n, .int .i64 d] w fun e w' => e = .returned (.agg #[.int .i64 (blen d - 1), .int .u64 (smg n d)]) ∧ Below w.heap.size w w' := by
  have hw := pw_cases hn
  have d2 : d < 9223372036854775808 := by omega
  obtain ⟨a1, a2, a3, a4, a5, a6, a7⟩ := ts_spec d d0 (by omega) hp
  obtain ⟨u0, u1⟩ := smg_range hn d d0 d1 hp
  have hle := (blen_le hn d d0 (by omega) hp).2 d1
  have hdd : 1 < d := by have := pt_ge d d0 hp; omega
  have hQ : (pw n * ths d + d - 1) / d = smg n d := rfl
  have hpt := (pw_ts hn d d0 (by omega) hp).2
  obtain ⟨n0, n1⟩ := isW_range hn
  have hh : (2 : Int) ^ (n - 1).toNat = pw n / 2 := by
    unfold pw; rw [show n.toNat = (n - 1).toNat + 1 by omega, Int.pow_succ]; omega
  have hb := top_bit (n - 1) (by omega) (by omega) (smg n d) (by rw [hh]; omega) (by rw [hh]; omega) (by omega)
  by_cases hA : n ≤ 32
  · have hz : bits .and .u64 (smg n d / 2 ^ n.toNat) 1 = 0 := by
      have : smg n d / 2 ^ n.toNat = 0 := Int.ediv_eq_zero_of_lt (by omega) u1
      rw [this]; decide
    refine smagic_of n d d (blen d - 1) (smg n d) 1 6 1 _ _ _ _ hn rfl d0 d2 rfl (by omega) (by omega)
      (opsA n d (blen d - 1) (pw n * ths d) (smg n d) (by omega) (by omega) hpt.symm hdd (by omega) hQ (by omega)) (by omega) rfl (fun B w0 w c cw p a h => ?_) (fun B w0 w c cw p a h => ?_) w
    · exact intBit_A h (smg n d) n 0 (by omega) (by omega) rfl hz
    · exact intBit_A h (smg n d) (n - 1) 1 (by omega) (by omega) rfl hb.1
  · have hn64 : n = 64 := by
      unfold isW at hn; omega
    subst hn64
    have hpw : pw 64 = 18446744073709551616 := rfl
    have hT : (2 : Int) ^ (64 + (blen d - 1) - 64).toNat = ths d := by unfold ths; congr 1; omega
    have e1 : ths d / d = 0 := Int.ediv_eq_zero_of_lt (by omega) a6
    have e2 : ths d % d = ths d := Int.emod_eq_of_lt (by omega) a6
    have e0 : (ths d * 18446744073709551616 + (d - 1)) / d = smg 64 d := by
      rw [← hQ, hpw, Int.mul_comm]; congr 1; omega
    refine smagic_of 64 d d (blen d - 1) (smg 64 d) 2 7 1 _ _ _ _ hn rfl d0 d2 rfl (by omega) (by omega)
      (opsC 64 d (blen d - 1) (ths d) 0 (ths d) (smg 64 d) 1 (by omega) (by omega) hT hdd (by omega) e1 e2 e0 (.inl ⟨rfl, rfl, by omega⟩)) (by omega) rfl (fun B w0 w c cw p a h => ?_) (fun B w0 w c cw p a h => ?_) w
    · exact intBit_C h
    · exact intBit_A h (smg 64 d) 63 1 (by omega) (by omega) rfl hb.1

set_option maxHeartbeats 1000000 in
theorem umagic1_any (n c d : Int) (hn : isW n) (hd : low n c = d) (d0 : 0 < d) (d1 : d < pw n) (hp : pt d.toNat = true) (w : World) :
    Calls Tryz.prog 36 #[.int .u64 n, .int .i64 c] w fun e w' => e = .returned (.tuple #[.int .i64 (blen d), .int .u64 (umg n d)]) ∧ Below w.heap.size w w' := by
  have HC := Lib.hid (umagic_any n c d hn hd d0 d1 hp w)
  go_enter Tryz.func36, Tryz.ntmps36
  go_wp2_with fail
  refine HC.out.mono ?_
  rintro e w1 ⟨rfl, hb⟩
  go_wp2_with fail
  go_quiet (fail)
  go_wp2
  go_ret2
  exact ⟨rfl, below_drewN (hb.alloc hb.size _) _⟩

set_option maxHeartbeats 1000000 in
theorem umagic_impl (n c d : Int) (hn : isW n) (hd : low n c = d) (d0 : 0 < d) (d1 : d < pw n) (hp : pt d.toNat = true) (w : World) :
    Calls Tryz.prog 19 #[.int .u64 n, .int .i64 c] w fun e w' => e = .returned (.agg #[.int .i64 (blen d), .int .u64 (umg n d)]) ∧ Below w.heap.size w w' := by
  have HC := Lib.hid (umagic1_any n c d hn hd d0 d1 hp (w.alloc (.cells #[.int .i64 0, .int .u64 0] 32)))
  have hb1 : Below w.heap.size w (w.alloc (.cells #[.int .i64 0, .int .u64 0] 32)) := (Below.refl _ _).alloc (Nat.le_refl _) _
  go_enter Tryz.func19, Tryz.ntmps19
  go_wp2_with fail
  refine HC.out.mono ?_
  rintro e w8 ⟨rfl, hb8⟩
  have hlt : w.heap.size < (w.alloc (.cells #[.int .i64 0, .int .u64 0] 32)).heap.size := by simp
  have k0 : w8.cell? ⟨w.heap.size, 0, none⟩ = some (.int .i64 0) := (hb8.cell (p := ⟨w.heap.size, 0, none⟩) hlt).trans (by rw [World.cell?_alloc_at _ _ _ _ rfl]; rfl)
  have k1 : w8.cell? ⟨w.heap.size, 1, none⟩ = some (.int .u64 0) := (hb8.cell (p := ⟨w.heap.size, 1, none⟩) hlt).trans (by rw [World.cell?_alloc_at _ _ _ _ rfl]; rfl)
  have kf : w8.frozen? ⟨w.heap.size, 0, none⟩ = false := (hb8.frozen (p := ⟨w.heap.size, 0, none⟩) hlt).trans (World.frozen?_alloc_at _ _ _ _ rfl)
  have kg : w8.frozen? ⟨w.heap.size, 1, none⟩ = false := (hb8.frozen (p := ⟨w.heap.size, 1, none⟩) hlt).trans (World.frozen?_alloc_at _ _ _ _ rfl)
  go_wp2_with fail
  refine bodyPost_ret (v := .agg #[.int .i64 (blen d), .int .u64 (umg n d)]) ?_ rfl ⟨rfl, ?_⟩
  · simp [results, Tryz.results19, go_sem, k0, k1]
  · exact ((hb1.trans (hb8.mono (Nat.le_of_lt hlt))).setCell (Nat.le_refl _) _).setCell (Nat.le_refl _) _

set_option maxHeartbeats 1000000 in
theorem smagic1_any (n d : Int) (hn : isW n) (d0 : 0 < d) (d1 : d < pw n / 2) (hp : pt d.toNat = true) (w : World) :
    Calls Tryz.prog 41 #[.int .u64 n, .int .i64 d] w fun e w' => e = .returned (.tuple #[.int .i64 (blen d - 1), .int .u64 (smg n d)]) ∧ Below w.heap.size w w' := by
  have HC := Lib.hid (smagic_any n d hn d0 d1 hp w)
  go_enter Tryz.func41, Tryz.ntmps41
  go_wp2_with fail
  refine HC.out.mono ?_
  rintro e w1 ⟨rfl, hb⟩
  go_wp2_with fail
  go_quiet (fail)
  go_wp2
  go_ret2
  exact ⟨rfl, below_drewN (hb.alloc hb.size _) _⟩

set_option maxHeartbeats 1000000 in
theorem smagic_impl (n d : Int) (hn : isW n) (d0 : 0 < d) (d1 : d < pw n / 2) (hp : pt d.toNat = true) (w : World) :
    Calls Tryz.prog 24 #[.int .u64 n, .int .i64 d] w fun e w' => e = .returned (.agg #[.int .i64 (blen d - 1), .int .u64 (smg n d)]) ∧ Below w.heap.size w w' := by
  have HC := Lib.hid (smagic1_any n d hn d0 d1 hp (w.alloc (.cells #[.int .i64 0, .int .u64 0] 32)))
  have hb1 : Below w.heap.size w (w.alloc (.cells #[.int .i64 0, .int .u64 0] 32)) := (Below.refl _ _).alloc (Nat.le_refl _) _
  go_enter Tryz.func24, Tryz.ntmps24
  go_wp2_with fail
  refine HC.out.mono ?_
  rintro e w8 ⟨rfl, hb8⟩
  have hlt : w.heap.size < (w.alloc (.cells #[.int .i64 0, .int .u64 0] 32)).heap.size := by simp
  have k0 : w8.cell? ⟨w.heap.size, 0, none⟩ = some (.int .i64 0) := (hb8.cell (p := ⟨w.heap.size, 0, none⟩) hlt).trans (by rw [World.cell?_alloc_at _ _ _ _ rfl]; rfl)
  have k1 : w8.cell? ⟨w.heap.size, 1, none⟩ = some (.int .u64 0) := (hb8.cell (p := ⟨w.heap.size, 1, none⟩) hlt).trans (by rw [World.cell?_alloc_at _ _ _ _ rfl]; rfl)
  have kf : w8.frozen? ⟨w.heap.size, 0, none⟩ = false := (hb8.frozen (p := ⟨w.heap.size, 0, none⟩) hlt).trans (World.frozen?_alloc_at _ _ _ _ rfl)
  have kg : w8.frozen? ⟨w.heap.size, 1, none⟩ = false := (hb8.frozen (p := ⟨w.heap.size, 1, none⟩) hlt).trans (World.frozen?_alloc_at _ _ _ _ rfl)
  go_wp2_with fail
  refine bodyPost_ret (v := .agg #[.int .i64 (blen d - 1), .int .u64 (smg n d)]) ?_ rfl ⟨rfl, ?_⟩
  · simp [results, Tryz.results24, go_sem, k0, k1]
  · exact ((hb1.trans (hb8.mono (Nat.le_of_lt hlt))).setCell (Nat.le_refl _) _).setCell (Nat.le_refl _) _
end Go.Proofs.YtjejffijhlppmaaGreatDoor
