/-
  The contract of Quotient.
-/
import Derived.Test.YtjejffijhlppmaaGreatDoorNi
import Derived.Test.YtjejffijhlppmaaGreatDoorSp
import Derived.Deep.RegionHeld3
namespace Go.Proofs.YtjejffijhlppmaaGreatDoor
open Go.Dv Go.RowKit
set_option linter.unusedVariables false

set_option maxHeartbeats 4000000 in
set_option maxRecDepth 100000 in
theorem quotient_any (n s m x y : Int) (hn : isW n) (s0 : 0 ≤ s) (s1 : s ≤ 64) (m0 : 0 < m) (m1 : m < 18446744073709551616) (x0 : -9223372036854775808 ≤ x) (x1 : x < 9223372036854775808) (hy : siz x = y)
    (hne : x < 0 → y * m % 2 ^ (n + s).toNat ≠ 0) (w : World) :
    Calls Tryz.prog 23 #[.int .u64 n, .agg #[.int .i64 s, .int .u64 m], .int .i64 x] w (NRet 15 (y * m / 2 ^ (n + s).toNat) w) := by
  obtain ⟨n0, n1⟩ := isW_range hn
  obtain ⟨y0, y1⟩ := siz_range x x0 (by omega)
  rw [hy] at y0 y1
  have HNE := Lib.hid hne
  have hsz := size_any x x0 x1
  rw [hy] at hsz
  have hk : ∀ (W : World), Below w.heap.size w W → True := fun _ _ => trivial
  have hb0 : Below w.heap.size w (w.alloc (.cells #[.int .i64 s, .int .u64 m] 32)) := (Below.refl _ _).alloc (Nat.le_refl _) _
  obtain ⟨wb, hwb⟩ : ∃ wb, w.alloc (.cells #[.int .i64 s, .int .u64 m] 32) = wb := ⟨_, rfl⟩
  have hz0 : w.heap.size < wb.heap.size := by rw [← hwb]; simp
  have k0 : wb.cell? ⟨w.heap.size, 0, none⟩ = some (.int .i64 s) := by rw [← hwb, World.cell?_alloc_at _ _ _ _ rfl]; rfl
  have g0 : wb.cell? ⟨w.heap.size, 1, none⟩ = some (.int .u64 m) := by rw [← hwb, World.cell?_alloc_at _ _ _ _ rfl]; rfl
  rw [hwb] at hb0
  have q1 : IntKind.i64.wrap (n + s) = n + s := IntWalk.i64_in _ (by omega)
  have q2 : IntKind.i64.wrap n = n := IntWalk.i64_in _ (by omega)
  have hns0 : 0 ≤ n + s := by omega
  have hns1 : n + s ≤ 300 := by omega
  clear hn hy hne hk
  by_cases hneg : x < 0
  · go_enter Tryz.func23, Tryz.ntmps23
    go_wp2_with fail
    clear hwb
    go_region_held3 (fun W => W.cell? ⟨w.heap.size, 0, none⟩ = some (.int .i64 s) ∧ W.cell? ⟨w.heap.size, 1, none⟩ = some (.int .u64 m)) (go_keep) (first
      | (go_at_call 25; refine (hsz _).mono ?_; rintro e w' ⟨rfl, rfl⟩)
      | (go_at_call_of 22 y; refine (natOf_any y y0 (by omega) _).mono ?_; rintro e w2 ⟨v2, rfl, nv2, hb2⟩; have k2 : w2.cell? ⟨w.heap.size, 0, none⟩ = some (.int .i64 s) := (hb2.cell (p := ⟨w.heap.size, 0, none⟩) hz0).trans k0; have g2 : w2.cell? ⟨w.heap.size, 1, none⟩ = some (.int .u64 m) := (hb2.cell (p := ⟨w.heap.size, 1, none⟩) hz0).trans g0; have hz2 : w.heap.size < w2.heap.size := Nat.lt_of_lt_of_le hz0 hb2.size)
      | (go_at_call_of 22 m; refine (natOf_any m (by omega) m1 _).mono ?_; rintro e w3 ⟨v3, rfl, nv3, hb3⟩; have g3 : w3.cell? ⟨w.heap.size, 1, none⟩ = some (.int .u64 m) := (hb3.cell (p := ⟨w.heap.size, 1, none⟩) hz2).trans g2; have k3 : w3.cell? ⟨w.heap.size, 0, none⟩ = some (.int .i64 s) := (hb3.cell (p := ⟨w.heap.size, 0, none⟩) hz2).trans k2; have hz3 : w.heap.size < w3.heap.size := Nat.lt_of_lt_of_le hz2 hb3.size)
      | (go_at_call 31; refine (natMul_any _ _ 2 2 y m (by omega) (by omega) m0 _ (nv2.below hb3) nv3).mono ?_; rintro e w5 ⟨v5, rfl, nv5, hb5⟩; have g5 : w5.cell? ⟨w.heap.size, 1, none⟩ = some (.int .u64 m) := (hb5.cell (p := ⟨w.heap.size, 1, none⟩) hz3).trans g3; have k5 : w5.cell? ⟨w.heap.size, 0, none⟩ = some (.int .i64 s) := (hb5.cell (p := ⟨w.heap.size, 0, none⟩) hz3).trans k3; have hz5 : w.heap.size < w5.heap.size := Nat.lt_of_lt_of_le hz3 hb5.size)
      | (go_at_call 35; refine (natShr_any _ 4 _ (n + s) (by omega) hns0 hns1 _ nv5).mono ?_; rintro e w6 ⟨v6, ex, rfl, nv6, hx6, hb6⟩; have g6 : w6.cell? ⟨w.heap.size, 1, none⟩ = some (.int .u64 m) := (hb6.cell (p := ⟨w.heap.size, 1, none⟩) hz5).trans g5; have k6 : w6.cell? ⟨w.heap.size, 0, none⟩ = some (.int .i64 s) := (hb6.cell (p := ⟨w.heap.size, 0, none⟩) hz5).trans k5; have hxf : x < 0 → ex = false := (fun hn => by cases ex; rfl; exact absurd (hx6 rfl) (HNE.out hn)); obtain rfl := hxf hneg; clear hxf))
    all_goals go_wp2
    all_goals go_ret
    all_goals exact ⟨_, rfl, nv6.mono (by omega), ((hb0.trans ((Below.refl wb.heap.size wb).drew.trans hb2 |>.mono (by omega))).trans (hb3.mono (by omega))).trans ((hb5.mono (by omega)).trans (hb6.mono (by omega)))⟩
  · go_enter Tryz.func23, Tryz.ntmps23
    go_wp2_with fail
    clear hwb
    go_region_held3 (fun W => W.cell? ⟨w.heap.size, 0, none⟩ = some (.int .i64 s) ∧ W.cell? ⟨w.heap.size, 1, none⟩ = some (.int .u64 m)) (go_keep) (first
      | (go_at_call 25; refine (hsz _).mono ?_; rintro e w' ⟨rfl, rfl⟩)
      | (go_at_call_of 22 y; refine (natOf_any y y0 (by omega) _).mono ?_; rintro e w2 ⟨v2, rfl, nv2, hb2⟩; have k2 : w2.cell? ⟨w.heap.size, 0, none⟩ = some (.int .i64 s) := (hb2.cell (p := ⟨w.heap.size, 0, none⟩) hz0).trans k0; have g2 : w2.cell? ⟨w.heap.size, 1, none⟩ = some (.int .u64 m) := (hb2.cell (p := ⟨w.heap.size, 1, none⟩) hz0).trans g0; have hz2 : w.heap.size < w2.heap.size := Nat.lt_of_lt_of_le hz0 hb2.size)
      | (go_at_call_of 22 m; refine (natOf_any m (by omega) m1 _).mono ?_; rintro e w3 ⟨v3, rfl, nv3, hb3⟩; have g3 : w3.cell? ⟨w.heap.size, 1, none⟩ = some (.int .u64 m) := (hb3.cell (p := ⟨w.heap.size, 1, none⟩) hz2).trans g2; have k3 : w3.cell? ⟨w.heap.size, 0, none⟩ = some (.int .i64 s) := (hb3.cell (p := ⟨w.heap.size, 0, none⟩) hz2).trans k2; have hz3 : w.heap.size < w3.heap.size := Nat.lt_of_lt_of_le hz2 hb3.size)
      | (go_at_call 31; refine (natMul_any _ _ 2 2 y m (by omega) (by omega) m0 _ (nv2.below hb3) nv3).mono ?_; rintro e w5 ⟨v5, rfl, nv5, hb5⟩; have g5 : w5.cell? ⟨w.heap.size, 1, none⟩ = some (.int .u64 m) := (hb5.cell (p := ⟨w.heap.size, 1, none⟩) hz3).trans g3; have k5 : w5.cell? ⟨w.heap.size, 0, none⟩ = some (.int .i64 s) := (hb5.cell (p := ⟨w.heap.size, 0, none⟩) hz3).trans k3; have hz5 : w.heap.size < w5.heap.size := Nat.lt_of_lt_of_le hz3 hb5.size)
      | (go_at_call 35; refine (natShr_any _ 4 _ (n + s) (by omega) hns0 hns1 _ nv5).mono ?_; rintro e w6 ⟨v6, ex, rfl, nv6, hx6, hb6⟩; have g6 : w6.cell? ⟨w.heap.size, 1, none⟩ = some (.int .u64 m) := (hb6.cell (p := ⟨w.heap.size, 1, none⟩) hz5).trans g5; have k6 : w6.cell? ⟨w.heap.size, 0, none⟩ = some (.int .i64 s) := (hb6.cell (p := ⟨w.heap.size, 0, none⟩) hz5).trans k5; have hxf : x < 0 → ex = false := (fun hn => by cases ex; rfl; exact absurd (hx6 rfl) (HNE.out hn)); clear hxf))
    all_goals go_wp2
    all_goals go_ret
    all_goals exact ⟨_, rfl, nv6.mono (by omega), ((hb0.trans ((Below.refl wb.heap.size wb).drew.trans hb2 |>.mono (by omega))).trans (hb3.mono (by omega))).trans ((hb5.mono (by omega)).trans (hb6.mono (by omega)))⟩
end Go.Proofs.YtjejffijhlppmaaGreatDoor
