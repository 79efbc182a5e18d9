/-
  The reference's natural numbers: how a slice reads; the contracts of digit and of trim.
-/
import Derived.Test.YtjejffijhlppmaaGreatDoorNa
import Derived.Test.YtjejffijhlppmaaGreatDoorTz
namespace Go.Dv
open Go.RowKit
set_option linter.unusedVariables false
/-- the slice v reads as the digits ds -/
def RL (w : World) (v : Value) (ds : List Int) : Prop :=
  ∃ a cap, v = .slice a ds.length cap ∧ ds.length ≤ cap ∧ (ds = [] ∨ ∃ b o, a = some ⟨b, o, none⟩ ∧ ∀ j, j < ds.length → w.cell? ⟨b, o + j, none⟩ = some (.int .u32 (ds.getD j 0)))
/-- the slice v tells the number x, in at most n digits -/
def NV (w : World) (n : Nat) (x : Int) (v : Value) : Prop := ∃ ds, RL w v ds ∧ dgs ds ∧ val ds = x ∧ ds.length ≤ n
theorem RL.below {w w' : World} {v : Value} {ds : List Int} (h : RL w v ds) (hb : Below w.heap.size w w') : RL w' v ds := by
  obtain ⟨a, cap, e1, e2, h | ⟨b, o, e3, h⟩⟩ := h
  · exact ⟨a, cap, e1, e2, .inl h⟩
  · exact ⟨a, cap, e1, e2, .inr ⟨b, o, e3, fun j hj => (hb.cell (p := ⟨b, o + j, none⟩) (World.block_lt_of_cell? w _ (h j hj))).trans (h j hj)⟩⟩
theorem NV.below {w w' : World} {v : Value} {n : Nat} {x : Int} (h : NV w n x v) (hb : Below w.heap.size w w') : NV w' n x v := by
  obtain ⟨ds, h1, h2⟩ := h
  exact ⟨ds, h1.below hb, h2⟩
theorem NV.mono {w : World} {v : Value} {n m : Nat} {x : Int} (h : NV w n x v) (hm : n ≤ m) : NV w m x v := by
  obtain ⟨ds, h1, h2, h3, h4⟩ := h
  exact ⟨ds, h1, h2, h3, by omega⟩
theorem below_drewN' (w : World) (n : Nat) : Below w.heap.size w (w.drewN n) := below_drewN (Below.refl _ _) n
theorem RL.drewN {w : World} {v : Value} {ds : List Int} (h : RL w v ds) (n : Nat) : RL (w.drewN n) v ds := h.below (below_drewN' w n)
theorem RL.drew {w : World} {v : Value} {ds : List Int} (h : RL w v ds) : RL w.drew v ds := h.below (Below.refl _ _).drew
theorem RL.alloc {w : World} {v : Value} {ds : List Int} (h : RL w v ds) (o : Obj) : RL (w.alloc o) v ds := h.below ((Below.refl _ _).alloc (Nat.le_refl _) o)
/-- a digit, 0 behind the end -/
def dgt (ds : List Int) (i : Int) : Int := ds.getD i.toNat 0
theorem dgt_range {ds : List Int} (h : dgs ds) (i : Int) : 0 ≤ dgt ds i ∧ dgt ds i < 4294967296 := dgs_getD h _
/-- behind trim -/
def TrimR (n : Nat) (x : Int) (w : World) (e : Ending) (w' : World) : Prop := ∃ v, e = .returned v ∧ NV w n x v ∧ w = w'
end Go.Dv
namespace Go.Proofs.YtjejffijhlppmaaGreatDoor
open Go.Dv Go.RowKit
set_option linter.unusedVariables false

theorem digit_in (b o n cap k : Nat) (d : Int) (hk : k < n) (d0 : 0 ≤ d) (d1 : d < 4294967296) (w : World) (hc : w.cell? ⟨b, o + k, none⟩ = some (.int .u32 d)) :
    Calls Tryz.prog 34 #[.slice (some ⟨b, o, none⟩) n cap, .int .i64 (k : Int)] w fun e w' => e = .returned (.int .u64 d) ∧ w = w' := by
  go_enter Tryz.func34, Tryz.ntmps34
  go_wp2
  go_ret
  exact ⟨rfl, rfl⟩
theorem digit_out (a : Option Addr) (n cap k : Nat) (hk : ¬ k < n) (w : World) :
    Calls Tryz.prog 34 #[.slice a n cap, .int .i64 (k : Int)] w fun e w' => e = .returned (.int .u64 0) ∧ w = w' := by
  go_enter Tryz.func34, Tryz.ntmps34
  go_wp2
  go_ret
  exact ⟨rfl, rfl⟩
theorem digit_any (v : Value) (ds : List Int) (i : Int) (hi : 0 ≤ i) (hd : dgs ds) (w : World) (h : RL w v ds) :
    Calls Tryz.prog 34 #[v, .int .i64 i] w fun e w' => e = .returned (.int .u64 (dgt ds i)) ∧ w = w' := by
  obtain ⟨k, rfl⟩ := Int.eq_ofNat_of_zero_le hi
  obtain ⟨a, cap, rfl, e2, h⟩ := h
  have e : dgt ds (k : Int) = ds.getD k 0 := rfl
  rw [e]
  by_cases hk : k < ds.length
  · rcases h with rfl | ⟨b, o, rfl, h⟩
    · simp at hk
    · have hr := dgs_getD hd k
      exact digit_in b o ds.length cap k _ hk hr.1 hr.2 w (h k hk)
  · have e0 : ds.getD k 0 = 0 := by simp [List.getD, Nat.le_of_not_lt hk]
    rw [e0]
    exact digit_out a ds.length cap k hk w

theorem trim_none (a : Option Addr) (cap : Nat) (w : World) :
    Calls Tryz.prog 39 #[.slice a 0 cap] w fun e w' => e = .returned (.slice a 0 cap) ∧ w = w' := by
  go_enter Tryz.func39, Tryz.ntmps39
  go_wp2
  refine wp_loop_rounds 1 ?_
  rw [rounds_succ]
  go_wp2
  go_ret
  exact ⟨rfl, rfl⟩
def TrimRet (b o n cap : Nat) (ds : List Int) (w : World) (e : Ending) (w' : World) : Prop := ∃ k, k ≤ n ∧ e = .returned (.slice (some ⟨b, o, none⟩) k cap) ∧ val (ds.take k) = val ds ∧ w = w'
set_option maxHeartbeats 1000000 in
theorem trim_some (b o n cap : Nat) (ds : List Int) (hn : ds.length = n) (hcap : n ≤ cap) (hm : n ≤ 1000) (w : World) (hc : ∀ j, j < n → w.cell? ⟨b, o + j, none⟩ = some (.int .u32 (ds.getD j 0))) :
    Calls Tryz.prog 39 #[.slice (some ⟨b, o, none⟩) n cap] w (TrimRet b o n cap ds w) := by
  have HC := Lib.hid hc
  have HN := Lib.hid hn
  clear hc hn
  go_enter Tryz.func39, Tryz.ntmps39
  go_wp2
  go_loop [0] (fun t => ∃ k : Nat, k ≤ n ∧ Hid (val (ds.take k) = val ds) ∧ t = .slice (some ⟨b, o, none⟩) k cap) (fun t => match t with | .slice _ k _ => k | _ => 0)
  case atStart => exact ⟨n, Nat.le_refl _, by rw [List.take_of_length_le (by rw [HN.out]; omega)]; exact Lib.hid rfl, rfl⟩
  case round =>
    obtain ⟨k, hk, HV, rfl⟩ := hrel
    by_cases h0 : 0 < k
    · by_cases hz : ds.getD (k - 1) 0 = 0
      · have hcell : w.cell? ⟨b, o + (k - 1), none⟩ = some (.int .u32 0) := by rw [HC.out (k - 1) (by omega), hz]
        have HV2 : Hid (val (ds.take (k - 1)) = val ds) := Lib.hid (by
          have := val_take_succ ds (k - 1)
          rw [hz, show k - 1 + 1 = k by omega, HV.out] at this
          omega)
        clear hz
        go_wp2
        go_round
        case rel => exact ⟨k - 1, by omega, HV2, rfl⟩
        case measure => show k - 1 < k; omega
      · have hcell : w.cell? ⟨b, o + (k - 1), none⟩ = some (.int .u32 (ds.getD (k - 1) 0)) := HC.out (k - 1) (by omega)
        have hne : (ds.getD (k - 1) 0 == 0) = false := by simpa using hz
        generalize ds.getD (k - 1) 0 = x at *
        clear hz
        go_wp2
        go_ret
        exact ⟨k, hk, rfl, HV.out, rfl⟩
    · obtain rfl : k = 0 := by omega
      go_wp2
      go_ret
      exact ⟨0, Nat.zero_le _, rfl, HV.out, rfl⟩
theorem trim_any (v : Value) (ds : List Int) (hd : dgs ds) (hm : ds.length ≤ 1000) (w : World) (h : RL w v ds) :
    Calls Tryz.prog 39 #[v] w (TrimR ds.length (val ds) w) := by
  have H := h
  obtain ⟨a, cap, rfl, e2, rfl | ⟨b, o, rfl, h⟩⟩ := h
  · exact (trim_none a cap w).mono fun e w' ⟨he, hw⟩ => ⟨_, he, ⟨[], H, hd, rfl, Nat.le_refl _⟩, hw⟩
  · refine (trim_some b o ds.length cap ds rfl e2 hm w h).mono fun e w' ⟨k, hk, he, hv, hw⟩ => ⟨_, he, ⟨ds.take k, ?_, dgs_take hd k, hv, by simp; omega⟩, hw⟩
    have hl : (ds.take k).length = k := List.length_take_of_le hk
    refine ⟨some ⟨b, o, none⟩, cap, by rw [hl], by omega, .inr ⟨b, o, rfl, fun j hj => ?_⟩⟩
    rw [h j (by omega)]
    have : (ds.take k).getD j 0 = ds.getD j 0 := by
      have hj2 : j < k := by omega
      simp [List.getD, hj2]
    rw [this]
end Go.Proofs.YtjejffijhlppmaaGreatDoor
