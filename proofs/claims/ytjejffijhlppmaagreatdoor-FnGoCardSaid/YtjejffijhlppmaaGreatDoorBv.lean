/-
  The walks of umagic and smagic, over what is done to M.
-/
import Derived.Test.YtjejffijhlppmaaGreatDoorBu
namespace Go.Proofs.YtjejffijhlppmaaGreatDoor
open Go.Dv Go.RowKit
set_option linter.unusedVariables false

set_option maxRecDepth 100000 in
set_option maxHeartbeats 4000000 in
theorem umagic_of (n c d s m : Int) (nL capL nD : Nat) (cL cA cS cD : Array Value) (hn : isW n) (hd : low n c = d) (d0 : 0 < d) (d1 : d < 18446744073709551616) (es : blen d = s) (s0 : 1 ≤ s) (s1 : s ≤ 64) (H : Ops n d s nL capL nD cL cA cS cD)
    (hB : ∀ B w0 w c cw p a, MS B w0 w c cw p a d nD capL cD → Calls Tryz.prog 54 #[.pointer (some ⟨p, 0, none⟩), .int .i64 n] w fun e w' => e = .returned (.int .u64 1) ∧ w = w')
    (hX : ∀ B w0 w c cw p a, MS B w0 w c cw p a d nD capL cD → Calls Tryz.prog 55 #[.pointer (some ⟨p, 0, none⟩), .pointer (some ⟨p, 0, none⟩), .int .i64 n, .int .u64 0] w fun e w' => e = .returned (.pointer (some ⟨p, 0, none⟩)) ∧ ∃ cells', cells'[0]? = some (.int .u64 m) ∧ MS B w0 w' c cw p a d 1 capL cells')
    (w : World) :
    Calls Tryz.prog 43 #[.int .u64 n, .int .i64 c] w fun e w' => e = .returned (.agg #[.int .i64 s, .int .u64 m]) ∧ Below w.heap.size w w' := by
  obtain ⟨g0, g1⟩ := isW_range hn
  have hdd : IntKind.u64.wrap (IntKind.u64.wrap c * 2 ^ (64 - n).toNat) / 2 ^ (64 - n).toNat = d := hd
  clear hd
  have hb0 := (Below.refl (w.heap.size + 1) (w.alloc (.cells #[.int .i64 0, .int .u64 0] 64))).alloc (by simp) (.cells #[.bool false, .slice none 0 0] 78)
  have hb1 : Below w.heap.size w (w.alloc (.cells #[.int .i64 0, .int .u64 0] 64)) := (Below.refl _ _).alloc (Nat.le_refl _) _
  have hz1 : (w.alloc (.cells #[.int .i64 0, .int .u64 0] 64)).heap.size = w.heap.size + 1 := Array.size_push _
  have HZ := Lib.hid hz1
  have hC := heap_alloc_new (w.alloc (.cells #[.int .i64 0, .int .u64 0] 64)) (.cells #[.bool false, .slice none 0 0] 78)
  rw [hz1] at hC
  have HC := Lib.hid hC
  clear hz1 hC
  go_enter Tryz.func43, Tryz.ntmps43
  go_wp2_with fail
  refine (setUint64M (c := w.heap.size + 1) hb0 (Nat.le_of_eq HZ.out.symm) (Nat.le_refl _) HC.out d0 d1).mono ?_
  rintro e w1 ⟨rfl, cw, h1⟩
  go_wp2_with fail
  refine (bitLenM h1 d0 (by omega)).mono ?_
  rintro e w1' ⟨rfl, rfl⟩
  go_wp2_with fail
  refine (newIntC h1).mono ?_
  rintro e w2 ⟨p, a, rfl, h2⟩
  go_wp2_with fail
  refine (H.lsh _ _ _ _ _ _ _ h2).mono ?_
  rintro e w3 ⟨rfl, a3, h3⟩
  go_wp2_with fail
  refine (H.add _ _ _ _ _ _ _ h3).mono ?_
  rintro e w4 ⟨rfl, h4⟩
  go_wp2_with fail
  refine (newIntM h4).mono ?_
  rintro e w5 ⟨q, yb, rfl, h5, hq, hy, hne⟩
  go_wp2_with fail
  refine (H.sub _ _ _ _ _ _ _ _ _ h5 hq hy hne).mono ?_
  rintro e w6 ⟨rfl, h6⟩
  clear hq hy hne
  go_wp2_with fail
  refine (H.div _ _ _ _ _ _ _ h6).mono ?_
  rintro e w7 ⟨rfl, h7⟩
  clear h1 h2 h3 h4 h5 h6
  go_wp2_with fail
  refine (hB _ _ _ _ _ _ _ h7).mono ?_
  rintro e w7' ⟨rfl, rfl⟩
  go_wp2_with fail
  refine (hX _ _ _ _ _ _ _ h7).mono ?_
  rintro e w8 ⟨rfl, cells, hx, h8⟩
  go_wp2_with fail
  refine (intUint64_any h8 (Nat.le_refl _) _ hx).mono ?_
  rintro e w8' ⟨rfl, rfl⟩
  have hb8 := h8.below
  have k0 : w8.cell? ⟨w.heap.size, 0, none⟩ = some (.int .i64 0) := (hb8.cell (p := ⟨w.heap.size, 0, none⟩) (Nat.lt_succ_self _)).trans (by rw [World.cell?_alloc_at _ _ _ _ rfl]; rfl)
  have k1 : w8.cell? ⟨w.heap.size, 1, none⟩ = some (.int .u64 0) := (hb8.cell (p := ⟨w.heap.size, 1, none⟩) (Nat.lt_succ_self _)).trans (by rw [World.cell?_alloc_at _ _ _ _ rfl]; rfl)
  have kf : w8.frozen? ⟨w.heap.size, 0, none⟩ = false := (hb8.frozen (p := ⟨w.heap.size, 0, none⟩) (Nat.lt_succ_self _)).trans (World.frozen?_alloc_at _ _ _ _ rfl)
  have kg : w8.frozen? ⟨w.heap.size, 1, none⟩ = false := (hb8.frozen (p := ⟨w.heap.size, 1, none⟩) (Nat.lt_succ_self _)).trans (World.frozen?_alloc_at _ _ _ _ rfl)
  go_wp2_with fail
  refine bodyPost_ret (v := .agg #[.int .i64 s, .int .u64 m]) ?_ rfl ⟨rfl, ?_⟩
  · simp [results, Tryz.results43, go_sem, k0, k1]
  · exact ((hb1.trans (hb8.mono (Nat.le_succ _))).setCell (Nat.le_refl _) _).setCell (Nat.le_refl _) _

set_option maxRecDepth 100000 in
set_option maxHeartbeats 4000000 in
theorem smagic_of (n c d s m : Int) (nL capL nD : Nat) (cL cA cS cD : Array Value) (hn : isW n) (hc : c = d) (d0 : 0 < d) (d1 : d < 9223372036854775808) (es : blen d - 1 = s) (s0 : 1 ≤ s) (s1 : s ≤ 64) (H : Ops n d s nL capL nD cL cA cS cD) (hnD : 1 ≤ nD) (hx : cD[0]? = some (.int .u64 m))
    (hB : ∀ B w0 w c cw p a, MS B w0 w c cw p a d nD capL cD → Calls Tryz.prog 54 #[.pointer (some ⟨p, 0, none⟩), .int .i64 n] w fun e w' => e = .returned (.int .u64 0) ∧ w = w')
    (hX : ∀ B w0 w c cw p a, MS B w0 w c cw p a d nD capL cD → Calls Tryz.prog 54 #[.pointer (some ⟨p, 0, none⟩), .int .i64 (n - 1)] w fun e w' => e = .returned (.int .u64 1) ∧ w = w')
    (w : World) :
    Calls Tryz.prog 45 #[.int .u64 n, .int .i64 c] w fun e w' => e = .returned (.agg #[.int .i64 s, .int .u64 m]) ∧ Below w.heap.size w w' := by
  obtain ⟨g0, g1⟩ := isW_range hn
  subst hc
  have hb0 := (Below.refl (w.heap.size + 1) (w.alloc (.cells #[.int .i64 0, .int .u64 0] 69))).alloc (by simp) (.cells #[.bool false, .slice none 0 0] 78)
  have hb1 : Below w.heap.size w (w.alloc (.cells #[.int .i64 0, .int .u64 0] 69)) := (Below.refl _ _).alloc (Nat.le_refl _) _
  have hz1 : (w.alloc (.cells #[.int .i64 0, .int .u64 0] 69)).heap.size = w.heap.size + 1 := Array.size_push _
  have HZ := Lib.hid hz1
  have hC := heap_alloc_new (w.alloc (.cells #[.int .i64 0, .int .u64 0] 69)) (.cells #[.bool false, .slice none 0 0] 78)
  rw [hz1] at hC
  have HC := Lib.hid hC
  clear hz1 hC
  go_enter Tryz.func45, Tryz.ntmps45
  go_wp2_with fail
  refine (setInt64M (c := w.heap.size + 1) hb0 (Nat.le_of_eq HZ.out.symm) (Nat.le_refl _) HC.out d0 d1).mono ?_
  rintro e w1 ⟨rfl, cw, h1⟩
  go_wp2_with fail
  refine (bitLenM h1 d0 (by omega)).mono ?_
  rintro e w1' ⟨rfl, rfl⟩
  go_wp2_with fail
  refine (newIntC h1).mono ?_
  rintro e w2 ⟨p, a, rfl, h2⟩
  go_wp2_with fail
  refine (H.lsh _ _ _ _ _ _ _ h2).mono ?_
  rintro e w3 ⟨rfl, a3, h3⟩
  go_wp2_with fail
  refine (H.add _ _ _ _ _ _ _ h3).mono ?_
  rintro e w4 ⟨rfl, h4⟩
  go_wp2_with fail
  refine (newIntM h4).mono ?_
  rintro e w5 ⟨q, yb, rfl, h5, hq, hy, hne⟩
  go_wp2_with fail
  refine (H.sub _ _ _ _ _ _ _ _ _ h5 hq hy hne).mono ?_
  rintro e w6 ⟨rfl, h6⟩
  clear hq hy hne
  go_wp2_with fail
  refine (H.div _ _ _ _ _ _ _ h6).mono ?_
  rintro e w7 ⟨rfl, h7⟩
  clear h1 h2 h3 h4 h5 h6
  go_wp2_with fail
  refine (hB _ _ _ _ _ _ _ h7).mono ?_
  rintro e w7' ⟨rfl, rfl⟩
  go_wp2_with fail
  refine (hX _ _ _ _ _ _ _ h7).mono ?_
  rintro e w8 ⟨rfl, rfl⟩
  have h8 := h7
  clear h7
  go_wp2_with fail
  refine (intUint64_any h8 hnD _ hx).mono ?_
  rintro e w8 ⟨rfl, rfl⟩
  have hb8 := h8.below
  have k0 : w7.cell? ⟨w.heap.size, 0, none⟩ = some (.int .i64 0) := (hb8.cell (p := ⟨w.heap.size, 0, none⟩) (Nat.lt_succ_self _)).trans (by rw [World.cell?_alloc_at _ _ _ _ rfl]; rfl)
  have k1 : w7.cell? ⟨w.heap.size, 1, none⟩ = some (.int .u64 0) := (hb8.cell (p := ⟨w.heap.size, 1, none⟩) (Nat.lt_succ_self _)).trans (by rw [World.cell?_alloc_at _ _ _ _ rfl]; rfl)
  have kf : w7.frozen? ⟨w.heap.size, 0, none⟩ = false := (hb8.frozen (p := ⟨w.heap.size, 0, none⟩) (Nat.lt_succ_self _)).trans (World.frozen?_alloc_at _ _ _ _ rfl)
  have kg : w7.frozen? ⟨w.heap.size, 1, none⟩ = false := (hb8.frozen (p := ⟨w.heap.size, 1, none⟩) (Nat.lt_succ_self _)).trans (World.frozen?_alloc_at _ _ _ _ rfl)
  go_wp2_with fail
  refine bodyPost_ret (v := .agg #[.int .i64 s, .int .u64 m]) ?_ rfl ⟨rfl, ?_⟩
  · simp [results, Tryz.results45, go_sem, k0, k1]
  · exact ((hb1.trans (hb8.mono (Nat.le_succ _))).setCell (Nat.le_refl _) _).setCell (Nat.le_refl _) _

end Go.Proofs.YtjejffijhlppmaaGreatDoor
