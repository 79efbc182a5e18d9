/-
  The contracts of NatOf and of NatCmp.
-/
import Derived.Test.YtjejffijhlppmaaGreatDoorNc
namespace Go.Dv
open Go.RowKit
set_option linter.unusedVariables false
/-- a function that returns a natural number in new memory -/
def NRet (n : Nat) (x : Int) (w : World) (e : Ending) (w' : World) : Prop := ∃ v, e = .returned v ∧ NV w' n x v ∧ Below w.heap.size w w'
theorem trimR_nret {n : Nat} {x : Int} {w w1 : World} (hb : Below w.heap.size w w1) {e : Ending} {w' : World} (h : TrimR n x w1 e w') : NRet n x w e w' := by
  obtain ⟨v, he, hv, rfl⟩ := h
  exact ⟨v, he, hv, hb⟩
theorem NRet.mono {n m : Nat} {x : Int} {w : World} {e : Ending} {w' : World} (h : NRet n x w e w') (hm : n ≤ m) : NRet m x w e w' := by
  obtain ⟨v, he, hv, hb⟩ := h
  exact ⟨v, he, hv.mono hm, hb⟩
/-- a literal of digits in new memory -/
theorem RL.lit (w : World) (ds : List Int) (t : TypeId) (cells : Array Value) (n : Nat) (hn : ds.length = n) (hc : ∀ j, j < n → cells[j]? = some (.int .u32 (ds.getD j 0))) :
    RL (w.alloc (.cells cells t)) (.slice (some ⟨w.heap.size, 0, none⟩) n n) ds := by
  subst hn
  refine ⟨_, ds.length, rfl, Nat.le_refl _, .inr ⟨w.heap.size, 0, rfl, fun j hj => ?_⟩⟩
  rw [Nat.zero_add, World.cell?_alloc_at _ _ _ _ rfl]
  exact hc j hj
end Go.Dv
namespace Go.Proofs.YtjejffijhlppmaaGreatDoor
open Go.Dv Go.RowKit
set_option linter.unusedVariables false

set_option maxHeartbeats 1000000 in
theorem natOf_any (x : Int) (h0 : 0 ≤ x) (h1 : x < 18446744073709551616) (w : World) :
    Calls Tryz.prog 22 #[.int .u64 x] w (NRet 2 x w) := by
  obtain ⟨hv, hd⟩ := natOf_val x h0 h1
  have e1 : IntKind.u32.wrap x = x % 4294967296 := by rw [IntKind.wrap_u32]
  have e2 : IntKind.u32.wrap (x / 4294967296) = x / 4294967296 := by rw [IntKind.wrap_u32]; omega
  have HV := Lib.hid hv
  clear hv
  go_enter Tryz.func22, Tryz.ntmps22
  go_wp2_with fail
  refine (trim_any _ [x % 4294967296, x / 4294967296] hd (by simp) _ (RL.lit w [x % 4294967296, x / 4294967296] _ _ 2 rfl ?_)).mono ?_
  · intro j hj
    have : j = 0 ∨ j = 1 := by omega
    rcases this with rfl | rfl <;> rfl
  rintro e w' ⟨v, rfl, hnv, rfl⟩
  rw [HV.out] at hnv
  go_wp2
  go_ret
  exact ⟨_, rfl, hnv, (Below.refl _ _).alloc (Nat.le_refl _) _⟩

theorem getD_far (ds : List Int) (j : Nat) (h : ds.length ≤ j) : ds.getD j 0 = 0 := by simp [List.getD, h]
set_option maxHeartbeats 1000000 in
theorem natCmp_ds (va vb : Value) (A B : List Int) (hA : dgs A) (hB : dgs B) (la : A.length ≤ 1000) (lb : B.length ≤ 1000) (w : World) (ra : RL w va A) (rb : RL w vb B) :
    Calls Tryz.prog 17 #[va, vb] w fun e w' => e = .returned (.int .i64 (cmpI (val A) (val B))) ∧ w = w' := by
  have ra' := ra
  have rb' := rb
  obtain ⟨aa, ca, rfl, -, -⟩ := ra'
  obtain ⟨ab, cb, rfl, -, -⟩ := rb'
  obtain ⟨n, hn⟩ : ∃ n, n = A.length := ⟨_, rfl⟩
  obtain ⟨m, hm⟩ : ∃ m, m = B.length := ⟨_, rfl⟩
  rw [← hn] at ra la
  rw [← hm] at rb lb
  have HN := Lib.hid hn
  have HM := Lib.hid hm
  have DA := fun i hi => digit_any _ A i hi hA w ra
  have DB := fun i hi => digit_any _ B i hi hB w rb
  rw [← hn, ← hm]
  clear hn hm ra rb
  by_cases hnm : n < m
  all_goals
    go_enter Tryz.func17, Tryz.ntmps17
    go_wp2
    go_loop [5] (fun t => ∃ z : Int, -1 ≤ z ∧ z ≤ 1000 ∧ Hid (∀ j : Nat, z < j → A.getD j 0 = B.getD j 0) ∧ t = .int .i64 z) (fun t => (intOf t + 1).toNat)
    case atStart =>
      refine ⟨_, ?_, ?_, ?_, rfl⟩
      · omega
      · omega
      · refine Lib.hid fun j hj => ?_
        rw [getD_far A j (by rw [← HN.out]; omega), getD_far B j (by rw [← HM.out]; omega)]
    case round =>
      obtain ⟨z, hz0, hz1, HE, rfl⟩ := hrel
      clear hnm
      by_cases h0 : 0 ≤ z
      · have DA1 := DA z h0
        have DB1 := DB z h0
        have ra := dgt_range hA z
        have rb := dgt_range hB z
        by_cases h1 : dgt A z < dgt B z
        · go_wp2_with fail
          refine DA1.mono ?_
          rintro e w' ⟨rfl, rfl⟩
          go_wp2_with fail
          refine DB1.mono ?_
          rintro e w' ⟨rfl, rfl⟩
          go_wp2_with fail
          go_ret
          exact ⟨ret_int (cmpI_lt (cmp_lt hA hB z.toNat (fun j hj => HE.out j (by omega)) h1)).symm, rfl⟩
        · by_cases h2 : dgt B z < dgt A z
          · go_wp2_with fail
            refine DA1.mono ?_
            rintro e w' ⟨rfl, rfl⟩
            go_wp2_with fail
            refine DB1.mono ?_
            rintro e w' ⟨rfl, rfl⟩
            go_wp2_with fail
            go_ret
            exact ⟨ret_int (cmpI_gt (cmp_lt hB hA z.toNat (fun j hj => (HE.out j (by omega)).symm) h2)).symm, rfl⟩
          · go_wp2_with fail
            refine DA1.mono ?_
            rintro e w' ⟨rfl, rfl⟩
            go_wp2_with fail
            refine DB1.mono ?_
            rintro e w' ⟨rfl, rfl⟩
            go_wp2_with fail
            go_round
            case rel =>
              refine ⟨z - 1, by omega, by omega, Lib.hid fun j hj => ?_, rfl⟩
              by_cases hj2 : z < j
              · exact HE.out j hj2
              · have : z.toNat = j := by omega
                have e1 : dgt A z = dgt B z := by omega
                rw [← this]; exact e1
            case measure => simp [intOf]; omega
      · obtain rfl : z = -1 := by omega
        go_wp2
        go_ret
        exact ⟨ret_int (cmpI_eq (val_congr A B fun j => HE.out j (by omega))).symm, rfl⟩
/-- the comparison of two natural numbers -/
theorem natCmp_any (va vb : Value) (n m : Nat) (x y : Int) (hn : n ≤ 1000) (hm : m ≤ 1000) (w : World) (ha : NV w n x va) (hb : NV w m y vb) :
    Calls Tryz.prog 17 #[va, vb] w fun e w' => e = .returned (.int .i64 (cmpI x y)) ∧ w = w' := by
  obtain ⟨A, ra, hA, rfl, la⟩ := ha
  obtain ⟨B, rb, hB, rfl, lb⟩ := hb
  exact natCmp_ds va vb A B hA hB (by omega) (by omega) w ra rb
end Go.Proofs.YtjejffijhlppmaaGreatDoor
