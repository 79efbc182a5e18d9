/-
  The walk of FnSignedConstants.
-/
import Derived.Test.YtjejffijhlppmaaGreatDoorNm
import Derived.Test.YtjejffijhlppmaaGreatDoorDvT
import Derived.Deep.RegionWith
import Derived.Deep.RegionHeld3
namespace Go.Proofs.YtjejffijhlppmaaGreatDoor
open Go.Dv Go.RowKit
set_option linter.unusedVariables false

set_option maxHeartbeats 1000000 in
theorem fnSignedConstants_zero (a0 a1 n : Int) (b0 : 0 ≤ a0) (b1 : a0 ≤ 255) (hn : isW n) (en : wid a0 = n) (ec : bits BinOp.and IntKind.u64 a1 (msk n / 2) = 0) (w : World) :
    Calls Tryz.prog 6 #[.int .u8 a0, .int .u64 a1] w fun e w' => e = .returned (.bool true) ∧ Below w.heap.size w w' := by
  go_enter Tryz.func6, Tryz.ntmps6
  go_wp2_with (first | (go_at_call 14; refine (width_any a0 b0 b1 _).mono ?_; rintro e w' ⟨rfl, rfl⟩) | (go_at_call 15; refine (mask_any _ hn _).mono ?_; rintro e w' ⟨rfl, rfl⟩) | (go_at_call 16; refine (power_any _ _).mono ?_; rintro e w' ⟨rfl, rfl⟩))
  go_ret
  exact ⟨rfl, Below.refl _ _⟩

set_option maxHeartbeats 1000000 in
theorem fnSignedConstants_pow (a0 a1 n c : Int) (b0 : 0 ≤ a0) (b1 : a0 ≤ 255) (hn : isW n) (en : wid a0 = n) (ec : bits BinOp.and IntKind.u64 a1 (msk n / 2) = c) (cz : (c == 0) = false) (cp : powW c = true) (w : World) :
    Calls Tryz.prog 6 #[.int .u8 a0, .int .u64 a1] w fun e w' => e = .returned (.bool true) ∧ Below w.heap.size w w' := by
  go_enter Tryz.func6, Tryz.ntmps6
  go_wp2_with (first | (go_at_call 14; refine (width_any a0 b0 b1 _).mono ?_; rintro e w' ⟨rfl, rfl⟩) | (go_at_call 15; refine (mask_any _ hn _).mono ?_; rintro e w' ⟨rfl, rfl⟩) | (go_at_call 16; refine (power_any _ _).mono ?_; rintro e w' ⟨rfl, rfl⟩))
  go_ret
  exact ⟨rfl, Below.refl _ _⟩

set_option maxRecDepth 100000 in
set_option maxHeartbeats 4000000 in
theorem fnSignedConstants_main (a0 a1 n c s m : Int) (b0 : 0 ≤ a0) (b1 : a0 ≤ 255) (hn : isW n) (en : wid a0 = n) (ec : bits BinOp.and IntKind.u64 a1 (msk n / 2) = c)
    (hc : Cs n c) (cz : (c == 0) = false) (cp : powW c = false) (ei : IntKind.i64.wrap c = c) (ei2 : wrap64 c = c) (c0 : 0 < c) (c2 : c < 18446744073709551616) (es : blen c = s + 1) (em : smg n c = m) (hp : Hid (pt c.toNat = true)) (s0 : 0 ≤ s) (s1 : s ≤ 64) (m0 : 0 ≤ m) (m1 : m < 18446744073709551616) (m2 : m ≤ msk n) (n0 : 8 ≤ n) (n1 : n ≤ 64) (hlo : Hid (2 ^ (n + s).toNat ≤ m * c)) (hhi : Hid (m * c < 2 ^ (n + s).toNat + c)) (w : World) :
    Calls Tryz.prog 6 #[.int .u8 a0, .int .u64 a1] w fun e w' => e = .returned (.bool true) ∧ Below w.heap.size w w' := by
  go_enter Tryz.func6, Tryz.ntmps6
  have q1 : IntKind.i64.wrap (n + s) = n + s := IntWalk.i64_in _ (by omega)
  have q2 : IntKind.i64.wrap n = n := IntWalk.i64_in _ (by omega)
  have q3 : IntKind.i64.wrap (s + 1 - 1) = s := by rw [show s + 1 - 1 = s by omega]; exact IntWalk.i64_in _ (by omega)
  have q4 : s + 1 - 1 = s := by omega
  have q5 : IntKind.i64.wrap s = s := IntWalk.i64_in _ (by omega)
  have HU := smagicQ hc
  have HL := log_any c c0 c2 hp.out
  rw [es] at HU HL
  rw [em, q4] at HU
  have n2 : n ≤ 300 := by omega
  have n3 : 0 ≤ n := by omega
  have ns0 : 0 ≤ n + s := by omega
  have ns1 : n + s ≤ 300 := by omega
  clear es em
  go_wp2_with (first | (go_at_call 14; refine (width_any a0 b0 b1 _).mono ?_; rintro e w' ⟨rfl, rfl⟩) | (go_at_call 15; refine (mask_any _ hn _).mono ?_; rintro e w' ⟨rfl, rfl⟩) | (go_at_call 16; refine (power_any _ _).mono ?_; rintro e w' ⟨rfl, rfl⟩))
  refine (HU _).mono ?_
  rintro e w1 ⟨rfl, hb1⟩
  obtain ⟨wb, hwb⟩ : ∃ wb, w1.alloc (.cells #[.int .i64 s, .int .u64 m] 32) = wb := ⟨_, rfl⟩
  have hz0 : w1.heap.size < wb.heap.size := by rw [← hwb]; simp
  have k0 : wb.cell? ⟨w1.heap.size, 0, none⟩ = some (.int .i64 s) := by rw [← hwb, World.cell?_alloc_at _ _ _ _ rfl]; rfl
  have g0 : wb.cell? ⟨w1.heap.size, 1, none⟩ = some (.int .u64 m) := by rw [← hwb, World.cell?_alloc_at _ _ _ _ rfl]; rfl
  have hbw : Below w.heap.size w wb := by rw [← hwb]; exact hb1.alloc hb1.size _
  go_wp2_with fail
  clear hwb
  go_region_held3 (fun W => W.cell? ⟨w1.heap.size, 0, none⟩ = some (.int .i64 s) ∧ W.cell? ⟨w1.heap.size, 1, none⟩ = some (.int .u64 m)) (first | go_keep | trivial) (first
    | (go_at_call 28; refine (HL _).mono ?_; rintro e w' ⟨rfl, rfl⟩)
    | (go_at_call 15; refine (mask_any _ hn _).mono ?_; rintro e w' ⟨rfl, rfl⟩)
    | (go_at_call 22; refine (natOf_any m m0 m1 _).mono ?_; rintro e w3 ⟨v3, rfl, nv3, hb3⟩; have hB3 : Below wb.heap.size wb w3 := (by first | exact (Below.refl _ _).drew.trans hb3 | exact hb3); have k3 : w3.cell? ⟨w1.heap.size, 0, none⟩ = some (.int .i64 s) := (hB3.cell (p := ⟨w1.heap.size, 0, none⟩) hz0).trans k0; have g3 : w3.cell? ⟨w1.heap.size, 1, none⟩ = some (.int .u64 m) := (hB3.cell (p := ⟨w1.heap.size, 1, none⟩) hz0).trans g0; have hz3 : w1.heap.size < w3.heap.size := Nat.lt_of_lt_of_le hz0 hB3.size)
    | (go_at_call 29; refine (isQuotient_true _ m (n + s) c c0 c2 ns0 ns1 hlo.out hhi.out _ (nv3.mono (by omega))).mono ?_; rintro e w6 ⟨rfl, hb6⟩; have hB6 : Below w3.heap.size w3 w6 := (by first | exact hb6); have k6 : w6.cell? ⟨w1.heap.size, 0, none⟩ = some (.int .i64 s) := (hB6.cell (p := ⟨w1.heap.size, 0, none⟩) hz3).trans k3; have g6 : w6.cell? ⟨w1.heap.size, 1, none⟩ = some (.int .u64 m) := (hB6.cell (p := ⟨w1.heap.size, 1, none⟩) hz3).trans g3; have hz6 : w1.heap.size < w6.heap.size := Nat.lt_of_lt_of_le hz3 hB6.size))
  all_goals go_wp2
  all_goals go_ret
  all_goals exact ⟨rfl, (hbw.trans (hB3.mono hbw.size)).trans (hB6.mono (Nat.le_trans hbw.size hB3.size))⟩

theorem fnSignedConstants_walk (a0 a1 : Int) (w0 : (Lit.int .u8 a0).wf = true) (w1 : (Lit.int .u64 a1).wf = true) (w : World) :
    Calls Tryz.prog 6 #[.int .u8 a0, .int .u64 a1] w fun e w' => e = .returned (.bool true) ∧ Below w.heap.size w w' := by
  obtain ⟨b0, b1⟩ := bounds_u8 w0
  obtain ⟨b2, b3⟩ := bounds_u64 w1
  have hn := isW_wid a0 b0 b1
  obtain ⟨n, en⟩ : ∃ n, wid a0 = n := ⟨_, rfl⟩
  rw [en] at hn
  obtain ⟨p0, p1, p2⟩ := pw_pos hn
  obtain ⟨c, ec⟩ : ∃ c, bits BinOp.and IntKind.u64 a1 (msk n / 2) = c := ⟨_, rfl⟩
  obtain ⟨c0, c1⟩ := half_range hn a1 b2 b3
  rw [ec] at c0 c1
  by_cases hz : c = 0
  · subst hz
    exact fnSignedConstants_zero a0 a1 n b0 b1 hn en ec w
  · have cz : (c == 0) = false := by simpa using hz
    cases hp : powW c with
    | true => exact fnSignedConstants_pow a0 a1 n c b0 b1 hn en ec cz hp w
    | false =>
      obtain ⟨t0, t1, -⟩ := tz_lt hn c (by omega) (by omega)
      obtain ⟨l1, l2⟩ := low_wrap hn c c0 (by omega)
      have hcc : Cs n c := ⟨hn, by omega, c1, not_pow c (by omega) (by omega) hp⟩
      obtain ⟨e1, e2, -⟩ := ts_spec c hcc.c0 hcc.u.lt hcc.p
      obtain ⟨u0, u1⟩ := smg_range hn c hcc.c0 hcc.c1 hcc.p
      obtain ⟨m1, m2⟩ := sm_ceil hn c hcc.c0 hcc.c1 hcc.p
      rw [(pw_ts hn c hcc.c0 hcc.u.lt hcc.p).2] at m1 m2
      obtain ⟨n0, n1⟩ := isW_range hn
      exact fnSignedConstants_main a0 a1 n c (blen c - 1) _ b0 b1 hn en ec hcc cz hp (by rw [IntWalk.i64_left]; exact IntWalk.wrap64_in c ⟨by omega, by omega⟩) (IntWalk.wrap64_in c ⟨by omega, by omega⟩) hcc.c0 hcc.u.lt (by omega) rfl (Lib.hid hcc.p) (by omega) (by omega) (by omega) (by omega) (by rw [msk_pw hn]; omega) n0 n1 (Lib.hid (Int.le_of_lt m1)) (Lib.hid m2) w
end Go.Proofs.YtjejffijhlppmaaGreatDoor
