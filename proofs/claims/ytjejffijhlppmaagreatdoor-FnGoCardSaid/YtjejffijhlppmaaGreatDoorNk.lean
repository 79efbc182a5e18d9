/-
  The contract of IsQuotient, where it says yes.
-/
import Derived.Test.YtjejffijhlppmaaGreatDoorNi
namespace Go.Dv
theorem cmpI_ge {x y : Int} (h : y ≤ x) : 0 ≤ cmpI x y := by unfold cmpI; rw [if_neg (by omega)]; split <;> omega
theorem cmpI_le {x y : Int} (h : x ≤ y) : cmpI x y ≤ 0 := by
  by_cases h2 : x < y
  · rw [cmpI_lt h2]; decide
  · rw [cmpI_eq (by omega)]; decide
theorem cmpI_neg {x y : Int} (h : x < y) : cmpI x y < 0 := by rw [cmpI_lt h]; decide
end Go.Dv
namespace Go.Proofs.YtjejffijhlppmaaGreatDoor
open Go.Dv Go.RowKit
set_option linter.unusedVariables false

set_option maxHeartbeats 2000000 in
set_option maxRecDepth 100000 in
theorem isQuotient_true (v : Value) (m ex c : Int) (c0 : 0 < c) (c1 : c < 18446744073709551616) (h0 : 0 ≤ ex) (h1 : ex ≤ 300) (hlo : 2 ^ ex.toNat ≤ m * c) (hhi : m * c < 2 ^ ex.toNat + c) (w : World) (nv : NV w 15 m v) :
    Calls Tryz.prog 29 #[v, .int .i64 ex, .int .u64 c] w fun e w' => e = .returned (.bool true) ∧ Below w.heap.size w w' := by
  obtain ⟨P, hP⟩ : ∃ P : Int, 2 ^ ex.toNat = P := ⟨_, rfl⟩
  obtain ⟨U, hU⟩ : ∃ U, m * c = U := ⟨_, rfl⟩
  rw [hP, hU] at hlo hhi
  have HP := Lib.hid hP
  have HU := Lib.hid hU
  have g1 := cmpI_ge hlo
  have g2 := cmpI_neg hhi
  clear hP hU hlo hhi
  obtain ⟨r1, hr1⟩ : ∃ r, cmpI U P = r := ⟨_, rfl⟩
  obtain ⟨r2, hr2⟩ : ∃ r, cmpI U (P + c) = r := ⟨_, rfl⟩
  rw [hr1] at g1
  rw [hr2] at g2
  have HR1 := Lib.hid hr1
  have HR2 := Lib.hid hr2
  clear hr1 hr2
  have hbl := (Below.refl w.heap.size w).alloc (Nat.le_refl _) (.cells #[.int .u32 1] 50)
  go_enter Tryz.func29, Tryz.ntmps29
  go_wp2_with fail
  refine (natShl_any _ ex h0 h1 _ (lit_one _ _)).mono ?_
  rintro e w1 ⟨v1, rfl, nv1, hb1⟩
  rw [HP.out] at nv1
  have hb01 := hbl.trans (hb1.mono (by simp))
  clear hbl hb1
  go_wp2_with fail
  refine (natOf_any c (by omega) c1 _).mono ?_
  rintro e w2 ⟨v2, rfl, nv2, hb2⟩
  go_wp2_with fail
  refine (natMul_any _ _ 15 2 m c (by omega) (by omega) c0 _ ((nv.below hb01).below hb2) nv2).mono ?_
  rintro e w3 ⟨v3, rfl, nv3, hb3⟩
  rw [HU.out] at nv3
  have nv1 := (nv1.below hb2).below hb3
  have hb03 := (hb01.trans (hb2.mono hb01.size)).trans (hb3.mono (Nat.le_trans hb01.size hb2.size))
  clear hb01 hb2 hb3 nv2 nv
  go_wp2_with fail
  refine (natCmp_any _ _ 17 12 U P (by omega) (by omega) _ nv3 nv1).mono ?_
  rintro e w' ⟨rfl, rfl⟩
  rw [HR1.out]
  go_wp2_with fail
  refine (natOf_any c (by omega) c1 _).mono ?_
  rintro e w4 ⟨v4, rfl, nv4, hb4⟩
  go_wp2_with fail
  refine (natAdd_any _ _ 12 2 12 P c (by omega) (by omega) (by omega) _ (nv1.below hb4) nv4).mono ?_
  rintro e w5 ⟨v5, rfl, nv5, hb5⟩
  have nv3 := (nv3.below hb4).below hb5
  have hb05 := (hb03.trans (hb4.mono hb03.size)).trans (hb5.mono (Nat.le_trans hb03.size hb4.size))
  clear hb03 hb4 hb5 nv4 nv1
  go_wp2_with fail
  refine (natCmp_any _ _ 17 13 U (P + c) (by omega) (by omega) _ nv3 nv5).mono ?_
  rintro e w' ⟨rfl, rfl⟩
  rw [HR2.out]
  go_wp2
  go_ret
  exact ⟨rfl, hb05⟩
end Go.Proofs.YtjejffijhlppmaaGreatDoor
