/-
  The walk of FnStep.
-/
import Derived.Test.YtjejffijhlppmaaGreatDoorNm
import Derived.Test.YtjejffijhlppmaaGreatDoorDvT
import Derived.Deep.RegionWith
import Derived.Deep.RegionHeld3
namespace Go.Proofs.YtjejffijhlppmaaGreatDoor
open Go.Dv Go.RowKit
set_option linter.unusedVariables false

set_option maxHeartbeats 1000000 in
theorem fnStep_zero (a0 a1 a2 n : Int) (b0 : 0 ≤ a0) (b1 : a0 ≤ 255) (hn : isW n) (en : wid a0 = n) (ec : bits BinOp.and IntKind.u64 a1 (msk n) = 0) (w : World) :
    Calls Tryz.prog 9 #[.int .u8 a0, .int .u64 a1, .int .u64 a2] w fun e w' => e = .returned (.bool true) ∧ Below w.heap.size w w' := by
  go_enter Tryz.func9, Tryz.ntmps9
  go_wp2_with (first | (go_at_call 14; refine (width_any a0 b0 b1 _).mono ?_; rintro e w' ⟨rfl, rfl⟩) | (go_at_call 15; refine (mask_any _ hn _).mono ?_; rintro e w' ⟨rfl, rfl⟩) | (go_at_call 16; refine (power_any _ _).mono ?_; rintro e w' ⟨rfl, rfl⟩))
  go_ret
  exact ⟨rfl, Below.refl _ _⟩

set_option maxHeartbeats 1000000 in
theorem fnStep_pow (a0 a1 a2 n c : Int) (b0 : 0 ≤ a0) (b1 : a0 ≤ 255) (hn : isW n) (en : wid a0 = n) (ec : bits BinOp.and IntKind.u64 a1 (msk n) = c) (cz : (c == 0) = false) (cp : powW c = true) (w : World) :
    Calls Tryz.prog 9 #[.int .u8 a0, .int .u64 a1, .int .u64 a2] w fun e w' => e = .returned (.bool true) ∧ Below w.heap.size w w' := by
  go_enter Tryz.func9, Tryz.ntmps9
  go_wp2_with (first | (go_at_call 14; refine (width_any a0 b0 b1 _).mono ?_; rintro e w' ⟨rfl, rfl⟩) | (go_at_call 15; refine (mask_any _ hn _).mono ?_; rintro e w' ⟨rfl, rfl⟩) | (go_at_call 16; refine (power_any _ _).mono ?_; rintro e w' ⟨rfl, rfl⟩))
  go_ret
  exact ⟨rfl, Below.refl _ _⟩

theorem one_nv {w : World} {v : Value} (h : RL w v [1]) : NV w 1 1 v := ⟨[1], h, dgs_one (by decide) (by decide), rfl, Nat.le_refl _⟩
theorem step_facts {n : Int} (hn : isW n) (c k : Int) (c0 : 0 < c) (c1 : c < pw n) (h3 : 3 ≤ c) (k0 : 0 < k) (k1 : k ≤ msk n / c) : IntKind.u64.wrap (k * c) = k * c ∧ 0 < k * c ∧ k * c < pw n ∧ k * c / c = k ∧ (k * c - 1) / c = k - 1 := by
  have hp := pw_pos hn
  have hm := msk_pw hn
  have e := Int.emod_add_mul_ediv (msk n) c
  have a := Int.emod_nonneg (msk n) (show c ≠ 0 by omega)
  have k2 : k * c ≤ msk n / c * c := Int.mul_le_mul_of_nonneg_right k1 (by omega)
  rw [Int.mul_comm] at e
  have k3 : 0 < k * c := Int.mul_pos k0 c0
  refine ⟨by rw [IntKind.wrap_u64]; omega, k3, by omega, Int.mul_ediv_cancel _ (by omega), ?_⟩
  have : k * c - 1 = (c - 1) + c * (k - 1) := by rw [Int.mul_sub, Int.mul_comm c k]; omega
  rw [this, Int.add_mul_ediv_left _ _ (by omega), Int.ediv_eq_zero_of_lt (by omega) (by omega)]; omega
set_option maxRecDepth 100000 in
set_option maxHeartbeats 4000000 in
theorem fnStep_main_zero (a0 a1 a2 n c s m k  p' q r u : Int) (b0 : 0 ≤ a0) (b1 : a0 ≤ 255) (hn : isW n) (en : wid a0 = n) (b4 : 0 ≤ a2) (ec : bits BinOp.and IntKind.u64 a1 (msk n) = c)
    (hc : Cu n c) (cz : (c == 0) = false) (cp : powW c = false) (cd : Hid (low n (IntKind.i64.wrap c) = c)) (cd2 : Hid (low n (wrap64 c) = c)) (c0 : 0 < c) (c2 : c < 18446744073709551616) (m0' : 0 ≤ msk n) (m1' : msk n ≤ 18446744073709551615) (eu : msk n / c + 1 = u) (u0 : 0 < u) (u1 : u ≤ 18446744073709551615) (er : a2 % u = r) (hr : r = 0 ∧ k = 1) (es : blen c = s) (em : umg n c = m) (s0 : 0 < s)
    (ep : IntKind.u64.wrap (c) = c) (ep' : c - 1 = p') (p0 : 0 < c) (p1 : c < pw n) (p2 : c < 18446744073709551616) (hq : Hid (c / c = q)) (hq1 : Hid (p' / c = q - 1)) (q0 : 0 ≤ q) (w : World) :
    Calls Tryz.prog 9 #[.int .u8 a0, .int .u64 a1, .int .u64 a2] w fun e w' => e = .returned (.bool true) ∧ Below w.heap.size w w' := by
  obtain ⟨rfl, rfl⟩ := hr
  have HU := umagicQ hc
  have HS1 := unsignedQ hc c q (by omega) p1 hq
  have HS2 := unsignedQ hc p' (q - 1) (by omega) (by omega) hq1
  rw [es] at HU HS1 HS2
  rw [em] at HU HS1 HS2
  have h0 : Hid (cmpI q (q - 1 + 1) = 0) := Lib.hid (cmpI_eq (by omega))
  have q1 : IntKind.u64.wrap p' = p' := by rw [IntKind.wrap_u64]; omega
  have q2 : IntKind.u64.wrap (c - 1) = p' := by rw [ep']; exact q1
  clear es em
  go_enter Tryz.func9, Tryz.ntmps9
  go_wp2_with (first | (go_at_call 14; refine (width_any a0 b0 b1 _).mono ?_; rintro e w' ⟨rfl, rfl⟩) | (go_at_call 15; refine (mask_any _ hn _).mono ?_; rintro e w' ⟨rfl, rfl⟩) | (go_at_call 16; refine (power_any _ _).mono ?_; rintro e w' ⟨rfl, rfl⟩))
  refine (HU _ (by first | exact cd.out | exact cd2.out) _).mono ?_
  rintro e w1 ⟨rfl, hb1⟩
  obtain ⟨wb, hwb⟩ : ∃ wb, w1.alloc (.cells #[.int .i64 s, .int .u64 m] 32) = wb := ⟨_, rfl⟩
  have hz0 : w1.heap.size < wb.heap.size := by rw [← hwb]; simp
  have k0 : wb.cell? ⟨w1.heap.size, 0, none⟩ = some (.int .i64 s) := by rw [← hwb, World.cell?_alloc_at _ _ _ _ rfl]; rfl
  have g0 : wb.cell? ⟨w1.heap.size, 1, none⟩ = some (.int .u64 m) := by rw [← hwb, World.cell?_alloc_at _ _ _ _ rfl]; rfl
  have hbw : Below w.heap.size w wb := by rw [← hwb]; exact hb1.alloc hb1.size _
  go_wp2_with fail
  clear hwb
  go_region_held3 (fun W => W.cell? ⟨w1.heap.size, 0, none⟩ = some (.int .i64 s) ∧ W.cell? ⟨w1.heap.size, 1, none⟩ = some (.int .u64 m)) (first | go_keep | trivial) (first
    | (go_at_call_of 18 p'; refine (HS2 _).mono ?_; rintro e w4 ⟨v4, rfl, nv4, hb4⟩; have hB4 : Below w3.heap.size w3 w4 := (by first | exact hb4 | exact ((Below.refl _ _).alloc (Nat.le_refl _) _).trans (hb4.mono (by simp))); have k4 : w4.cell? ⟨w1.heap.size, 0, none⟩ = some (.int .i64 s) := (hB4.cell (p := ⟨w1.heap.size, 0, none⟩) hz3).trans k3; have g4 : w4.cell? ⟨w1.heap.size, 1, none⟩ = some (.int .u64 m) := (hB4.cell (p := ⟨w1.heap.size, 1, none⟩) hz3).trans g3; have hz4 : w1.heap.size < w4.heap.size := Nat.lt_of_lt_of_le hz3 hB4.size)
    | (go_at_call_of 18 c; refine (HS1 _).mono ?_; rintro e w3 ⟨v3, rfl, nv3, hb3⟩; have hB3 : Below wb.heap.size wb w3 := (by first | exact (Below.refl _ _).drew.trans hb3 | exact hb3 | exact ((Below.refl _ _).alloc (Nat.le_refl _) _).drew.trans (hb3.mono (by simp))); have k3 : w3.cell? ⟨w1.heap.size, 0, none⟩ = some (.int .i64 s) := (hB3.cell (p := ⟨w1.heap.size, 0, none⟩) hz0).trans k0; have g3 : w3.cell? ⟨w1.heap.size, 1, none⟩ = some (.int .u64 m) := (hB3.cell (p := ⟨w1.heap.size, 1, none⟩) hz0).trans g0; have hz3 : w1.heap.size < w3.heap.size := Nat.lt_of_lt_of_le hz0 hB3.size)
    | (go_at_call 32; refine (natAdd_any _ _ 15 1 15 (q - 1) 1 (by omega) (by omega) (by omega) _ (by first | exact nv4 | exact nv4.below ((Below.refl _ _).alloc (Nat.le_refl _) _)) (one_nv (by first | exact lit_one _ _ | exact (lit_one _ _).below hb4 | exact ((lit_one _ _).below hb3).below hb4 | exact ((lit_one _ _).drew.below hb3).below hb4))).mono ?_; rintro e w5 ⟨v5, rfl, nv5, hb5⟩; have hB5 : Below w4.heap.size w4 w5 := (by first | exact hb5 | exact ((Below.refl _ _).alloc (Nat.le_refl _) _).trans (hb5.mono (by simp))); have k5 : w5.cell? ⟨w1.heap.size, 0, none⟩ = some (.int .i64 s) := (hB5.cell (p := ⟨w1.heap.size, 0, none⟩) hz4).trans k4; have g5 : w5.cell? ⟨w1.heap.size, 1, none⟩ = some (.int .u64 m) := (hB5.cell (p := ⟨w1.heap.size, 1, none⟩) hz4).trans g4; have hz5 : w1.heap.size < w5.heap.size := Nat.lt_of_lt_of_le hz4 hB5.size)
    | (go_at_call 17; refine (cmpQ _ _ 15 16 q (q - 1 + 1) 0 h0 (by omega) (by omega) _ ((nv3.below hB4).below hB5) nv5).mono ?_; rintro e w' ⟨rfl, rfl⟩))
  all_goals go_wp2
  all_goals go_ret
  all_goals exact ⟨rfl, (hbw.trans (hB3.mono hbw.size)).trans ((hB4.mono (Nat.le_trans hbw.size hB3.size)).trans (hB5.mono (Nat.le_trans hbw.size (Nat.le_trans hB3.size hB4.size))))⟩

set_option maxRecDepth 100000 in
set_option maxHeartbeats 4000000 in
theorem fnStep_main_pos (a0 a1 a2 n c s m k p p' q r u : Int) (b0 : 0 ≤ a0) (b1 : a0 ≤ 255) (hn : isW n) (en : wid a0 = n) (b4 : 0 ≤ a2) (ec : bits BinOp.and IntKind.u64 a1 (msk n) = c)
    (hc : Cu n c) (cz : (c == 0) = false) (cp : powW c = false) (cd : Hid (low n (IntKind.i64.wrap c) = c)) (cd2 : Hid (low n (wrap64 c) = c)) (c0 : 0 < c) (c2 : c < 18446744073709551616) (m0' : 0 ≤ msk n) (m1' : msk n ≤ 18446744073709551615) (eu : msk n / c + 1 = u) (u0 : 0 < u) (u1 : u ≤ 18446744073709551615) (er : a2 % u = r) (hr : (r == 0) = false ∧ k = r) (es : blen c = s) (em : umg n c = m) (s0 : 0 < s)
    (ep : IntKind.u64.wrap (k * c) = p) (ep' : p - 1 = p') (p0 : 0 < p) (p1 : p < pw n) (p2 : p < 18446744073709551616) (hq : Hid (p / c = q)) (hq1 : Hid (p' / c = q - 1)) (q0 : 0 ≤ q) (w : World) :
    Calls Tryz.prog 9 #[.int .u8 a0, .int .u64 a1, .int .u64 a2] w fun e w' => e = .returned (.bool true) ∧ Below w.heap.size w w' := by
  obtain ⟨hr, rfl⟩ := hr
  have HU := umagicQ hc
  have HS1 := unsignedQ hc p q (by omega) p1 hq
  have HS2 := unsignedQ hc p' (q - 1) (by omega) (by omega) hq1
  rw [es] at HU HS1 HS2
  rw [em] at HU HS1 HS2
  have h0 : Hid (cmpI q (q - 1 + 1) = 0) := Lib.hid (cmpI_eq (by omega))
  have q1 : IntKind.u64.wrap p' = p' := by rw [IntKind.wrap_u64]; omega
  have q2 : IntKind.u64.wrap (p - 1) = p' := by rw [ep']; exact q1
  clear es em
  go_enter Tryz.func9, Tryz.ntmps9
  go_wp2_with (first | (go_at_call 14; refine (width_any a0 b0 b1 _).mono ?_; rintro e w' ⟨rfl, rfl⟩) | (go_at_call 15; refine (mask_any _ hn _).mono ?_; rintro e w' ⟨rfl, rfl⟩) | (go_at_call 16; refine (power_any _ _).mono ?_; rintro e w' ⟨rfl, rfl⟩))
  refine (HU _ (by first | exact cd.out | exact cd2.out) _).mono ?_
  rintro e w1 ⟨rfl, hb1⟩
  obtain ⟨wb, hwb⟩ : ∃ wb, w1.alloc (.cells #[.int .i64 s, .int .u64 m] 32) = wb := ⟨_, rfl⟩
  have hz0 : w1.heap.size < wb.heap.size := by rw [← hwb]; simp
  have k0 : wb.cell? ⟨w1.heap.size, 0, none⟩ = some (.int .i64 s) := by rw [← hwb, World.cell?_alloc_at _ _ _ _ rfl]; rfl
  have g0 : wb.cell? ⟨w1.heap.size, 1, none⟩ = some (.int .u64 m) := by rw [← hwb, World.cell?_alloc_at _ _ _ _ rfl]; rfl
  have hbw : Below w.heap.size w wb := by rw [← hwb]; exact hb1.alloc hb1.size _
  go_wp2_with fail
  clear hwb
  go_region_held3 (fun W => W.cell? ⟨w1.heap.size, 0, none⟩ = some (.int .i64 s) ∧ W.cell? ⟨w1.heap.size, 1, none⟩ = some (.int .u64 m)) (first | go_keep | trivial) (first
    | (go_at_call_of 18 p'; refine (HS2 _).mono ?_; rintro e w4 ⟨v4, rfl, nv4, hb4⟩; have hB4 : Below w3.heap.size w3 w4 := (by first | exact hb4 | exact ((Below.refl _ _).alloc (Nat.le_refl _) _).trans (hb4.mono (by simp))); have k4 : w4.cell? ⟨w1.heap.size, 0, none⟩ = some (.int .i64 s) := (hB4.cell (p := ⟨w1.heap.size, 0, none⟩) hz3).trans k3; have g4 : w4.cell? ⟨w1.heap.size, 1, none⟩ = some (.int .u64 m) := (hB4.cell (p := ⟨w1.heap.size, 1, none⟩) hz3).trans g3; have hz4 : w1.heap.size < w4.heap.size := Nat.lt_of_lt_of_le hz3 hB4.size)
    | (go_at_call_of 18 p; refine (HS1 _).mono ?_; rintro e w3 ⟨v3, rfl, nv3, hb3⟩; have hB3 : Below wb.heap.size wb w3 := (by first | exact (Below.refl _ _).drew.trans hb3 | exact hb3 | exact ((Below.refl _ _).alloc (Nat.le_refl _) _).drew.trans (hb3.mono (by simp))); have k3 : w3.cell? ⟨w1.heap.size, 0, none⟩ = some (.int .i64 s) := (hB3.cell (p := ⟨w1.heap.size, 0, none⟩) hz0).trans k0; have g3 : w3.cell? ⟨w1.heap.size, 1, none⟩ = some (.int .u64 m) := (hB3.cell (p := ⟨w1.heap.size, 1, none⟩) hz0).trans g0; have hz3 : w1.heap.size < w3.heap.size := Nat.lt_of_lt_of_le hz0 hB3.size)
    | (go_at_call 32; refine (natAdd_any _ _ 15 1 15 (q - 1) 1 (by omega) (by omega) (by omega) _ (by first | exact nv4 | exact nv4.below ((Below.refl _ _).alloc (Nat.le_refl _) _)) (one_nv (by first | exact lit_one _ _ | exact (lit_one _ _).below hb4 | exact ((lit_one _ _).below hb3).below hb4 | exact ((lit_one _ _).drew.below hb3).below hb4))).mono ?_; rintro e w5 ⟨v5, rfl, nv5, hb5⟩; have hB5 : Below w4.heap.size w4 w5 := (by first | exact hb5 | exact ((Below.refl _ _).alloc (Nat.le_refl _) _).trans (hb5.mono (by simp))); have k5 : w5.cell? ⟨w1.heap.size, 0, none⟩ = some (.int .i64 s) := (hB5.cell (p := ⟨w1.heap.size, 0, none⟩) hz4).trans k4; have g5 : w5.cell? ⟨w1.heap.size, 1, none⟩ = some (.int .u64 m) := (hB5.cell (p := ⟨w1.heap.size, 1, none⟩) hz4).trans g4; have hz5 : w1.heap.size < w5.heap.size := Nat.lt_of_lt_of_le hz4 hB5.size)
    | (go_at_call 17; refine (cmpQ _ _ 15 16 q (q - 1 + 1) 0 h0 (by omega) (by omega) _ ((nv3.below hB4).below hB5) nv5).mono ?_; rintro e w' ⟨rfl, rfl⟩))
  all_goals go_wp2
  all_goals go_ret
  all_goals exact ⟨rfl, (hbw.trans (hB3.mono hbw.size)).trans ((hB4.mono (Nat.le_trans hbw.size hB3.size)).trans (hB5.mono (Nat.le_trans hbw.size (Nat.le_trans hB3.size hB4.size))))⟩


theorem fnStep_walk (a0 a1 a2 : Int) (w0 : (Lit.int .u8 a0).wf = true) (w1 : (Lit.int .u64 a1).wf = true) (w2 : (Lit.int .u64 a2).wf = true) (w : World) :
    Calls Tryz.prog 9 #[.int .u8 a0, .int .u64 a1, .int .u64 a2] w fun e w' => e = .returned (.bool true) ∧ Below w.heap.size w w' := by
  obtain ⟨b0, b1⟩ := bounds_u8 w0
  obtain ⟨b2, b3⟩ := bounds_u64 w1
  obtain ⟨b4, b5⟩ := bounds_u64 w2
  have hn := isW_wid a0 b0 b1
  obtain ⟨n, en⟩ : ∃ n, wid a0 = n := ⟨_, rfl⟩
  rw [en] at hn
  obtain ⟨p0, p1, p2⟩ := pw_pos hn
  obtain ⟨c, ec⟩ : ∃ c, bits BinOp.and IntKind.u64 a1 (msk n) = c := ⟨_, rfl⟩
  obtain ⟨c0, c1, -⟩ := cut_range hn a1 b2 b3
  rw [ec] at c0 c1
  by_cases hz : c = 0
  · subst hz
    exact fnStep_zero a0 a1 a2 n b0 b1 hn en ec w
  · have cz : (c == 0) = false := by simpa using hz
    cases hp : powW c with
    | true => exact fnStep_pow a0 a1 a2 n c b0 b1 hn en ec cz hp w
    | false =>
      obtain ⟨t0, t1, -⟩ := tz_lt hn c (by omega) c1
      obtain ⟨l1, l2⟩ := low_wrap hn c c0 c1
      have hcc : Cu n c := ⟨hn, by omega, c1, not_pow c (by omega) (by omega) hp⟩
      have h3 := pt_ge c hcc.c0 hcc.p
      obtain ⟨e1, e2, -⟩ := ts_spec c hcc.c0 hcc.lt hcc.p
      have hm := msk_pw hn
      have hq := quo_range (msk n) c (by omega) hcc.c0
      have hu1 : 0 < msk n / c := by
        have : 1 ≤ msk n / c := (Int.le_ediv_iff_mul_le hcc.c0).2 (by omega)
        omega
      have hq3 : msk n / c ≤ msk n / 3 := by
        refine (Int.le_ediv_iff_mul_le (by decide)).2 ?_
        have e := Int.emod_add_mul_ediv (msk n) c
        have a := Int.emod_nonneg (msk n) (show c ≠ 0 by omega)
        have : msk n / c * 3 ≤ msk n / c * c := Int.mul_le_mul_of_nonneg_left h3 (by omega)
        rw [Int.mul_comm] at e
        omega
      by_cases hr : a2 % (msk n / c + 1) = 0
      · obtain ⟨f1, f2, f3, f4, f5⟩ := step_facts hn c 1 hcc.c0 hcc.c1 h3 (by decide) (by omega)
        rw [Int.one_mul] at f1 f2 f3 f4 f5
        exact fnStep_main_zero a0 a1 a2 n c _ _ 1 _ 1 _ _ b0 b1 hn en b4 ec hcc cz hp (Lib.hid l1) (Lib.hid l2) hcc.c0 hcc.lt (by omega) (by omega) rfl (by omega) (by omega) rfl ⟨hr, rfl⟩ rfl rfl (by omega) f1 rfl f2 f3 (by omega) (Lib.hid f4) (Lib.hid f5) (by omega) w
      · have r0 := Int.emod_nonneg a2 (show msk n / c + 1 ≠ 0 by omega)
        have r1 := Int.emod_lt_of_pos a2 (show 0 < msk n / c + 1 by omega)
        obtain ⟨f1, f2, f3, f4, f5⟩ := step_facts hn c (a2 % (msk n / c + 1)) hcc.c0 hcc.c1 h3 (by omega) (by omega)
        exact fnStep_main_pos a0 a1 a2 n c _ _ _ _ _ _ _ _ b0 b1 hn en b4 ec hcc cz hp (Lib.hid l1) (Lib.hid l2) hcc.c0 hcc.lt (by omega) (by omega) rfl (by omega) (by omega) rfl ⟨by simpa using hr, rfl⟩ rfl rfl (by omega) f1 rfl f2 f3 (by omega) (Lib.hid f4) (Lib.hid f5) (by omega) w
end Go.Proofs.YtjejffijhlppmaaGreatDoor
