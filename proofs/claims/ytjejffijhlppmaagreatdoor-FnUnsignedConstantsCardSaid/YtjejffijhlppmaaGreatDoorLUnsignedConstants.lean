/-
  The walk of FnUnsignedConstants.
-/
import Derived.Test.YtjejffijhlppmaaGreatDoorNm
import Derived.Test.YtjejffijhlppmaaGreatDoorDvT
import Derived.Deep.RegionWith
import Derived.Deep.RegionHeld3
namespace Go.Proofs.YtjejffijhlppmaaGreatDoor
open Go.Dv Go.RowKit
set_option linter.unusedVariables false

set_option maxHeartbeats 1000000 in
theorem fnUnsignedConstants_zero (a0 a1 n : Int) (b0 : 0 ≤ a0) (b1 : a0 ≤ 255) (hn : isW n) (en : wid a0 = n) (ec : bits BinOp.and IntKind.u64 a1 (msk n) = 0) (w : World) :
    Calls Tryz.prog 10 #[.int .u8 a0, .int .u64 a1] w fun e w' => e = .returned (.bool true) ∧ Below w.heap.size w w' := by
  go_enter Tryz.func10, Tryz.ntmps10
  go_wp2_with (first | (go_at_call 14; refine (width_any a0 b0 b1 _).mono ?_; rintro e w' ⟨rfl, rfl⟩) | (go_at_call 15; refine (mask_any _ hn _).mono ?_; rintro e w' ⟨rfl, rfl⟩) | (go_at_call 16; refine (power_any _ _).mono ?_; rintro e w' ⟨rfl, rfl⟩))
  go_ret
  exact ⟨rfl, Below.refl _ _⟩

set_option maxHeartbeats 1000000 in
theorem fnUnsignedConstants_pow (a0 a1 n c : Int) (b0 : 0 ≤ a0) (b1 : a0 ≤ 255) (hn : isW n) (en : wid a0 = n) (ec : bits BinOp.and IntKind.u64 a1 (msk n) = c) (cz : (c == 0) = false) (cp : powW c = true) (w : World) :
    Calls Tryz.prog 10 #[.int .u8 a0, .int .u64 a1] w fun e w' => e = .returned (.bool true) ∧ Below w.heap.size w w' := by
  go_enter Tryz.func10, Tryz.ntmps10
  go_wp2_with (first | (go_at_call 14; refine (width_any a0 b0 b1 _).mono ?_; rintro e w' ⟨rfl, rfl⟩) | (go_at_call 15; refine (mask_any _ hn _).mono ?_; rintro e w' ⟨rfl, rfl⟩) | (go_at_call 16; refine (power_any _ _).mono ?_; rintro e w' ⟨rfl, rfl⟩))
  go_ret
  exact ⟨rfl, Below.refl _ _⟩

set_option maxRecDepth 100000 in
set_option maxHeartbeats 4000000 in
theorem fnUnsignedConstants_main (a0 a1 n c s m : Int) (b0 : 0 ≤ a0) (b1 : a0 ≤ 255) (hn : isW n) (en : wid a0 = n) (ec : bits BinOp.and IntKind.u64 a1 (msk n) = c)
    (hc : Cu n c) (cz : (c == 0) = false) (cp : powW c = false) (cd : Hid (low n (IntKind.i64.wrap c) = c)) (cd2 : Hid (low n (wrap64 c) = c)) (c0 : 0 < c) (c2 : c < 18446744073709551616) (es : blen c = s) (em : umg n c = m) (hp : Hid (pt c.toNat = true)) (s0 : 0 ≤ s) (s1 : s ≤ 64) (m0 : 0 ≤ m) (m1 : m < 18446744073709551616) (m2 : m ≤ msk n) (n0 : 8 ≤ n) (n1 : n ≤ 64) (hlo : Hid (2 ^ (n + s).toNat ≤ (m + pw n) * c)) (hhi : Hid ((m + pw n) * c < 2 ^ (n + s).toNat + c)) (w : World) :
    Calls Tryz.prog 10 #[.int .u8 a0, .int .u64 a1] w fun e w' => e = .returned (.bool true) ∧ Below w.heap.size w w' := by
  go_enter Tryz.func10, Tryz.ntmps10
  have q1 : IntKind.i64.wrap (n + s) = n + s := IntWalk.i64_in _ (by omega)
  have q2 : IntKind.i64.wrap n = n := IntWalk.i64_in _ (by omega)
  have HU := umagicQ hc
  have HL := log_any c c0 c2 hp.out
  rw [es] at HU HL
  rw [em] at HU
  have HPW : Hid ((2 : Int) ^ n.toNat = pw n) := Lib.hid rfl
  have n2 : n ≤ 300 := by omega
  have n3 : 0 ≤ n := by omega
  have ns0 : 0 ≤ n + s := by omega
  have ns1 : n + s ≤ 300 := by omega
  clear es em
  go_wp2_with (first | (go_at_call 14; refine (width_any a0 b0 b1 _).mono ?_; rintro e w' ⟨rfl, rfl⟩) | (go_at_call 15; refine (mask_any _ hn _).mono ?_; rintro e w' ⟨rfl, rfl⟩) | (go_at_call 16; refine (power_any _ _).mono ?_; rintro e w' ⟨rfl, rfl⟩))
  refine (HU _ (by first | exact cd.out | exact cd2.out) _).mono ?_
  rintro e w1 ⟨rfl, hb1⟩
  obtain ⟨wb, hwb⟩ : ∃ wb, w1.alloc (.cells #[.int .i64 s, .int .u64 m] 32) = wb := ⟨_, rfl⟩
  have hz0 : w1.heap.size < wb.heap.size := by rw [← hwb]; simp
  have k0 : wb.cell? ⟨w1.heap.size, 0, none⟩ = some (.int .i64 s) := by rw [← hwb, World.cell?_alloc_at _ _ _ _ rfl]; rfl
  have g0 : wb.cell? ⟨w1.heap.size, 1, none⟩ = some (.int .u64 m) := by rw [← hwb, World.cell?_alloc_at _ _ _ _ rfl]; rfl
  have hbw : Below w.heap.size w wb := by rw [← hwb]; exact hb1.alloc hb1.size _
  go_wp2_with fail
  clear hwb
  go_region_held3 (fun W => W.cell? ⟨w1.heap.size, 0, none⟩ = some (.int .i64 s) ∧ W.cell? ⟨w1.heap.size, 1, none⟩ = some (.int .u64 m)) (first | go_keep | trivial) (first
    | (go_at_call 28; refine (HL _).mono ?_; rintro e w' ⟨rfl, rfl⟩)
    | (go_at_call 15; refine (mask_any _ hn _).mono ?_; rintro e w' ⟨rfl, rfl⟩)
    | (go_at_call 22; refine (natOf_any m m0 m1 _).mono ?_; rintro e w3 ⟨v3, rfl, nv3, hb3⟩; have hB3 : Below wb.heap.size wb w3 := (by first | exact (Below.refl _ _).drew.trans hb3 | exact hb3 | exact ((Below.refl _ _).alloc (Nat.le_refl _) _).drew.trans (hb3.mono (by simp))); have k3 : w3.cell? ⟨w1.heap.size, 0, none⟩ = some (.int .i64 s) := (hB3.cell (p := ⟨w1.heap.size, 0, none⟩) hz0).trans k0; have g3 : w3.cell? ⟨w1.heap.size, 1, none⟩ = some (.int .u64 m) := (hB3.cell (p := ⟨w1.heap.size, 1, none⟩) hz0).trans g0; have hz3 : w1.heap.size < w3.heap.size := Nat.lt_of_lt_of_le hz0 hB3.size)
    | (go_at_call 33; refine (natShl_any _ n n3 n2 _ (by first | exact lit_one _ _ | exact (lit_one _ _).below hb3 | exact (lit_one _ _).drew.below hb3)).mono ?_; rintro e w4 ⟨v4, rfl, nv4, hb4⟩; rw [HPW.out] at nv4; have hB4 : Below w3.heap.size w3 w4 := (by first | exact ((Below.refl _ _).alloc (Nat.le_refl _) _).trans (hb4.mono (by simp)) | exact hb4); have k4 : w4.cell? ⟨w1.heap.size, 0, none⟩ = some (.int .i64 s) := (hB4.cell (p := ⟨w1.heap.size, 0, none⟩) hz3).trans k3; have g4 : w4.cell? ⟨w1.heap.size, 1, none⟩ = some (.int .u64 m) := (hB4.cell (p := ⟨w1.heap.size, 1, none⟩) hz3).trans g3; have hz4 : w1.heap.size < w4.heap.size := Nat.lt_of_lt_of_le hz3 hB4.size)
    | (go_at_call 32; refine (natAdd_any _ _ 2 12 12 m (pw n) (by omega) (by omega) (by omega) _ (nv3.below hB4) nv4).mono ?_; rintro e w5 ⟨v5, rfl, nv5, hb5⟩; have hB5 : Below w4.heap.size w4 w5 := (by first | exact hb5); have k5 : w5.cell? ⟨w1.heap.size, 0, none⟩ = some (.int .i64 s) := (hB5.cell (p := ⟨w1.heap.size, 0, none⟩) hz4).trans k4; have g5 : w5.cell? ⟨w1.heap.size, 1, none⟩ = some (.int .u64 m) := (hB5.cell (p := ⟨w1.heap.size, 1, none⟩) hz4).trans g4; have hz5 : w1.heap.size < w5.heap.size := Nat.lt_of_lt_of_le hz4 hB5.size)
    | (go_at_call 29; refine (isQuotient_true _ (m + pw n) (n + s) c c0 c2 ns0 ns1 hlo.out hhi.out _ (nv5.mono (by omega))).mono ?_; rintro e w6 ⟨rfl, hb6⟩; have hB6 : Below w5.heap.size w5 w6 := (by first | exact hb6); have k6 : w6.cell? ⟨w1.heap.size, 0, none⟩ = some (.int .i64 s) := (hB6.cell (p := ⟨w1.heap.size, 0, none⟩) hz5).trans k5; have g6 : w6.cell? ⟨w1.heap.size, 1, none⟩ = some (.int .u64 m) := (hB6.cell (p := ⟨w1.heap.size, 1, none⟩) hz5).trans g5; have hz6 : w1.heap.size < w6.heap.size := Nat.lt_of_lt_of_le hz5 hB6.size))
  all_goals go_wp2
  all_goals go_ret
  all_goals exact ⟨rfl, (hbw.trans (hB3.mono hbw.size)).trans ((hB4.mono (Nat.le_trans hbw.size hB3.size)).trans ((hB5.mono (Nat.le_trans hbw.size (Nat.le_trans hB3.size hB4.size))).trans (hB6.mono (Nat.le_trans hbw.size (Nat.le_trans hB3.size (Nat.le_trans hB4.size hB5.size))))))⟩

theorem fnUnsignedConstants_walk (a0 a1 : Int) (w0 : (Lit.int .u8 a0).wf = true) (w1 : (Lit.int .u64 a1).wf = true) (w : World) :
    Calls Tryz.prog 10 #[.int .u8 a0, .int .u64 a1] w fun e w' => e = .returned (.bool true) ∧ Below w.heap.size w w' := by
  obtain ⟨b0, b1⟩ := bounds_u8 w0
  obtain ⟨b2, b3⟩ := bounds_u64 w1
  have hn := isW_wid a0 b0 b1
  obtain ⟨n, en⟩ : ∃ n, wid a0 = n := ⟨_, rfl⟩
  rw [en] at hn
  obtain ⟨p0, p1, p2⟩ := pw_pos hn
  obtain ⟨c, ec⟩ : ∃ c, bits BinOp.and IntKind.u64 a1 (msk n) = c := ⟨_, rfl⟩
  obtain ⟨c0, c1, -⟩ := cut_range hn a1 b2 b3
  rw [ec] at c0 c1
  by_cases hz : c = 0
  · subst hz
    exact fnUnsignedConstants_zero a0 a1 n b0 b1 hn en ec w
  · have cz : (c == 0) = false := by simpa using hz
    cases hp : powW c with
    | true => exact fnUnsignedConstants_pow a0 a1 n c b0 b1 hn en ec cz hp w
    | false =>
      obtain ⟨t0, t1, -⟩ := tz_lt hn c (by omega) c1
      obtain ⟨l1, l2⟩ := low_wrap hn c c0 c1
      have hcc : Cu n c := ⟨hn, by omega, c1, not_pow c (by omega) (by omega) hp⟩
      obtain ⟨e1, e2, -⟩ := ts_spec c hcc.c0 hcc.lt hcc.p
      obtain ⟨u0, u1⟩ := umg_range hn c hcc.c0 hcc.c1 hcc.p
      obtain ⟨m1, m2⟩ := um_ceil hn c hcc.c0
      rw [(pw_ts hn c hcc.c0 hcc.lt hcc.p).1] at m1 m2
      obtain ⟨n0, n1⟩ := isW_range hn
      exact fnUnsignedConstants_main a0 a1 n c _ _ b0 b1 hn en ec hcc cz hp (Lib.hid l1) (Lib.hid l2) hcc.c0 hcc.lt rfl rfl (Lib.hid hcc.p) (by omega) (by omega) (by omega) (by omega) (by rw [msk_pw hn]; omega) n0 n1 (Lib.hid m1) (Lib.hid m2) w
end Go.Proofs.YtjejffijhlppmaaGreatDoor
