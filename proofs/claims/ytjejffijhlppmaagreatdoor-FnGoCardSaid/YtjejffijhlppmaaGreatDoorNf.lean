/-
  The contract of NatShl at the number 1.
-/
import Derived.Test.YtjejffijhlppmaaGreatDoorNe
import Derived.Test.YtjejffijhlppmaaGreatDoorDvT
namespace Go.Proofs.YtjejffijhlppmaaGreatDoor
open Go.Dv Go.RowKit
set_option linter.unusedVariables false

theorem made_zeros (z : Nat) : (madeCells #[Value.int IntKind.u32 0] z).toList = (List.replicate z (0 : Int)).map (Value.int .u32) := by
  rw [toList_madeCells_one, List.map_replicate]
theorem or_zero (x : Int) (h0 : 0 ≤ x) (h1 : x < 18446744073709551616) : bits .or .u64 0 x = x := by
  rw [u64_or 0 x (by omega) (by omega) h0 h1]
  simp; omega
theorem two_pow_32 (r : Nat) (hr : r < 32) : (1 : Int) ≤ 2 ^ r ∧ (2 : Int) ^ r < 4294967296 := by
  have h1 : (2 : Int) ^ r ≤ 2 ^ 31 := two_pow_le (by omega)
  have h2 : (0 : Int) < 2 ^ r := Int.pow_pos (by decide)
  omega
set_option maxHeartbeats 2000000 in
set_option maxRecDepth 100000 in
theorem natShl_one (v : Value) (z r : Nat) (N : Int) (hN : N = 32 * z + r) (hr : r < 32) (hz : z ≤ 10) (w : World) (h : RL w v [1]) :
    Calls Tryz.prog 33 #[v, .int .i64 N] w (NRet (z + 2) (2 ^ (32 * z + r)) w) := by
  obtain ⟨i0, hi, hz0, hz1, hz2⟩ := info_parts infoU
  obtain ⟨a, cap, rfl, e2, h | ⟨b, o, rfl, h⟩⟩ := h
  · cases h
  have hc : w.cell? ⟨b, o, none⟩ = some (.int .u32 1) := h 0 (by simp)
  have hq : N / 32 = (z : Int) := by omega
  have hm : N % 32 = (r : Int) := by omega
  have n0 : 0 ≤ N := by omega
  have n1 : N ≤ 1000 := by omega
  obtain ⟨T, hT⟩ : ∃ T : Int, (2 : Int) ^ r = T := ⟨_, rfl⟩
  obtain ⟨t0, t1⟩ := two_pow_32 r hr
  rw [hT] at t0 t1
  have hw : bits BinOp.or IntKind.u64 0 (IntKind.u64.wrap (2 ^ r)) = T := by
    rw [hT, show IntKind.u64.wrap T = T by rw [IntKind.wrap_u64]; omega]
    exact or_zero T (by omega) (by omega)
  have ht1 : T % 4294967296 = T := by omega
  have ht2 : T / 4294967296 = 0 := by omega
  have HV : Hid (val (List.replicate z 0 ++ [T] ++ [0]) = 2 ^ (32 * z + r)) := Lib.hid (by
    rw [List.append_assoc, ← shl_val z r, hT]; rfl)
  have HD : Hid (dgs (List.replicate z 0 ++ [T] ++ [0])) := Lib.hid (dgs_append.2 ⟨dgs_append.2 ⟨dgs_zeros z, dgs_one (by omega) t1⟩, dgs_one (by omega) (by omega)⟩)
  clear hN h hT
  go_enter Tryz.func33, Tryz.ntmps33
  go_wp2_with (at_make; refine wpList_make_full _ rfl _ _ 29 rfl w.heap.size 50 i0 (.int .u32 0) 1 Tryz.underlying29 hi hz0 hz1 _ _ _ _ z rfl rfl (by simp [hq]) (by simp [hq]) ?b2 ?b3 (Nat.le_refl _) ?_)
  case b2 => rw [hz2]; omega
  case b3 => unfold maxLen; omega
  intro w0 hown0 hgrow0
  have hown0 : w0.ownsRow w.heap.size 50 1 (.slice (some ⟨w.heap.size, 0, none⟩) z z) z ((List.replicate z (0 : Int)).map (Value.int .u32)) := by
    rw [← made_zeros]; simpa using hown0
  have hc0 : w0.cell? ⟨b, o, none⟩ = some (.int .u32 1) := hgrow0.cell hc (by simp)
  have hb0 := (Below.refl w.heap.size w).grown hgrow0 (Nat.le_refl _) (fun k h => by cases h)
  have hs0 := hb0.size
  clear hc
  go_wp2
  refine wp_loop_rounds 2 ?_
  rw [rounds_succ]
  go_wp2_with (at_builtin; refine wpList_append_own _ rfl (.tmp 27) (.tmp 30) 29 rfl w.heap.size 50 i0 (.int .u32 0) 1 4 Tryz.underlying29 hi hz0 hz1 hz2 rfl (by decide) _ _ _ rfl (hown0.alloc _) ⟨w0.heap.size, 0, none⟩ 1 1 [.int .u32 T] rfl rfl ?c1 ?c2 ?c3 ?c4 ?c5 ?_)
  case c1 => intro t u ht; match t, ht with | 0, ht => simp at ht; subst ht; simp [Addr.add]
  case c2 => intro u hu; simp at hu; subst hu; rfl
  case c3 => unfold maxLen; omega
  case c4 => omega
  case c5 => simp; omega
  intro v1 w1 hown1 hgrow1 _
  have hb1 := (hb0.alloc hs0 (.cells #[.int .u32 T] 50)).grown hgrow1 (by simp; omega) (fun j hj => (hown0.lt j hj).1)
  have hs1 := hb1.size
  clear hc0 hown0 hgrow0 hgrow1
  go_wp2
  rw [rounds_succ]
  go_wp2_with (at_builtin; refine wpList_append_own _ rfl (.tmp 34) (.tmp 37) 29 rfl w.heap.size 50 i0 (.int .u32 0) 1 4 Tryz.underlying29 hi hz0 hz1 hz2 rfl (by decide) _ _ _ rfl (hown1.alloc _) ⟨w1.heap.size, 0, none⟩ 1 1 [.int .u32 0] rfl rfl ?d1 ?d2 ?d3 ?d4 ?d5 ?_)
  case d1 => intro t u ht; match t, ht with | 0, ht => simp at ht; subst ht; simp [Addr.add]
  case d2 => intro u hu; simp at hu; subst hu; rfl
  case d3 => unfold maxLen; omega
  case d4 => omega
  case d5 => simp; omega
  intro v2 w2 hown2 hgrow2 _
  have hb2 := (hb1.alloc hs1 (.cells #[.int .u32 0] 50)).grown hgrow2 (by simp; omega) (fun j hj => (hown1.lt j hj).1)
  have hown3 : w2.ownsRow w.heap.size 50 1 v2 (z + 1 + 1) ((List.replicate z 0 ++ [T] ++ [0]).map (Value.int .u32)) := by simpa using hown2
  have HT := trim_any _ _ HD.out (by simp; omega) w2 (RL.own (by simp) hown3)
  clear hown1 hgrow2 hown2 hown3
  go_wp2_with fail
  refine HT.mono ?_
  rintro e w' ⟨v, rfl, hnv, rfl⟩
  rw [HV.out] at hnv
  go_wp2
  go_ret
  exact ⟨_, rfl, hnv.mono (by simp), hb2⟩
end Go.Proofs.YtjejffijhlppmaaGreatDoor
