/-
  The contract of NatAdd.
-/
import Derived.Test.YtjejffijhlppmaaGreatDoorNd
import Derived.Laws.AppendOwn
import Derived.Laws.OwnMore
namespace Go.Dv
open Go.RowKit
set_option linter.unusedVariables false
theorem map_getD (ds : List Int) (j : Nat) (h : j < ds.length) : (ds.map (Value.int .u32))[j]? = some (.int .u32 (ds.getD j 0)) := by
  simp [List.getD, h]
/-- a row of the call's own reads as its digits -/
theorem RL.own {w : World} {base : Nat} {e : TypeId} {v : Value} {ds : List Int} {n : Nat} (hn : ds.length = n) (h : w.ownsRow base e 1 v n (ds.map (Value.int .u32))) : RL w v ds := by
  obtain ⟨h1, ⟨rfl, rfl⟩ | ⟨g, cap, cur, rfl, hb, hg, hcap, h2, h3, h4⟩⟩ := h
  · have : ds = [] := List.length_eq_zero_iff.1 hn
    subst this
    exact ⟨none, 0, rfl, Nat.le_refl _, .inl rfl⟩
  · subst hn
    refine ⟨_, cap, rfl, hcap, .inr ⟨g, 0, rfl, fun j hj => ?_⟩⟩
    have hcell := World.ownsRow.cells (w := w) (base := base) (e := e) (size := 1) (v := .slice (some ⟨g, 0, none⟩) ds.length cap) (n := ds.length) (xs := ds.map (Value.int .u32)) ⟨h1, .inr ⟨g, cap, cur, rfl, hb, hg, hcap, h2, h3, h4⟩⟩ (g := g) rfl j _ (map_getD ds j hj)
    have hadd : (⟨g, 0, none⟩ : Addr).add j = ⟨g, 0 + j, none⟩ := by unfold Addr.add; split <;> simp_all
    rw [hadd] at hcell
    exact hcell
/-- a sum's round, on the digits -/
theorem add_keep {A B od : List Int} {k : Nat} {c : Int} (hA : dgs A) (hB : dgs B) (hod : dgs od) (hl : od.length = k) (c0 : 0 ≤ c) (c1 : c ≤ 1) (h : val od + c * bse k = val (A.take k) + val (B.take k)) :
    dgs (od ++ [(c + (dgt A k + dgt B k)) % 4294967296]) ∧ 0 ≤ (c + (dgt A k + dgt B k)) / 4294967296 ∧ (c + (dgt A k + dgt B k)) / 4294967296 ≤ 1 ∧
    val (od ++ [(c + (dgt A k + dgt B k)) % 4294967296]) + (c + (dgt A k + dgt B k)) / 4294967296 * bse (k + 1) = val (A.take (k + 1)) + val (B.take (k + 1)) := by
  have ra := dgt_range hA k
  have rb := dgt_range hB k
  refine ⟨dgs_append.2 ⟨hod, dgs_one (by omega) (by omega)⟩, by omega, by omega, ?_⟩
  rw [val_snoc, hl, bse_succ, val_take_succ, val_take_succ]
  exact add_round _ _ _ c (bse k) (dgt A k) (dgt B k) h
end Go.Dv
namespace Go.Proofs.YtjejffijhlppmaaGreatDoor
open Go.Dv Go.RowKit
set_option linter.unusedVariables false
theorem infoU : (Tryz.prog.info? 50).map (fun i => (i.zero, i.size, i.bytes)) = some (some (.int .u32 0), 1, 4) := by kernel_rfl

set_option maxHeartbeats 2000000 in
set_option maxRecDepth 100000 in
theorem natAdd_ds (va vb : Value) (A B : List Int) (M : Nat) (hA : dgs A) (hB : dgs B) (la : A.length ≤ M) (lb : B.length ≤ M) (hM : M ≤ 900) (w : World) (ra : RL w va A) (rb : RL w vb B) :
    Calls Tryz.prog 32 #[va, vb] w (NRet (M + 1) (val A + val B) w) := by
  obtain ⟨i0, hi, hz0, hz1, hz2⟩ := info_parts infoU
  have ra' := ra
  have rb' := rb
  obtain ⟨aa, ca, rfl, -, -⟩ := ra'
  obtain ⟨ab, cb, rfl, -, -⟩ := rb'
  obtain ⟨n, hn⟩ : ∃ n, n = A.length := ⟨_, rfl⟩
  obtain ⟨m, hm⟩ : ∃ m, m = B.length := ⟨_, rfl⟩
  rw [← hn] at ra la
  rw [← hm] at rb lb
  have HN := Lib.hid hn
  have HM := Lib.hid hm
  rw [← hn, ← hm]
  clear hn hm
  go_enter Tryz.func32, Tryz.ntmps32
  go_wp2
  go_loopw [5, 6, 7] (fun out sc si wr => ∃ (k : Nat) (c : Int) (od : List Int), k ≤ max n m + 1 ∧ 0 ≤ c ∧ c ≤ 1 ∧ Hid (max n m < k → c = 0) ∧ Hid (od.length = k) ∧ Hid (dgs od) ∧ Hid (val od + c * bse k = val (A.take k) + val (B.take k)) ∧
      si = .int .i64 k ∧ sc = .int .u64 c ∧ wr.ownsRow w.heap.size 50 1 out k (od.map (Value.int .u32)) ∧ Below w.heap.size w wr)
    (fun _ _ si _ => max n m + 1 - (intOf si).toNat)
  case atStart =>
    exact ⟨0, 0, [], by omega, by omega, by omega, Lib.hid (fun _ => rfl), Lib.hid rfl, Lib.hid dgs_nil, Lib.hid (by simp [val]), rfl, rfl, World.ownsRow_nil _ _ _ _, Below.refl _ _⟩
  case round =>
    obtain ⟨k, c, od, hk, c0, c1, hkc, HL, HD, HV, rfl, rfl, hown, hnx⟩ := hrel
    have hsz := hnx.size
    have DA1 := digit_any _ A (k : Int) (by omega) hA wr (ra.below hnx)
    have DB1 := digit_any _ B (k : Int) (by omega) hB wr (rb.below hnx)
    have rx := dgt_range hA (k : Int)
    have ry := dgt_range hB (k : Int)
    have HK := Lib.hid (add_keep hA hB HD.out HL.out c0 c1 HV.out)
    have HZ : Hid (¬ k < max n m → dgt A k = 0 ∧ dgt B k = 0) := Lib.hid fun hh => ⟨getD_far A k (by rw [← HN.out]; omega), getD_far B k (by rw [← HM.out]; omega)⟩
    generalize dgt A (k : Int) = x at *
    generalize dgt B (k : Int) = y at *
    have e1 : IntKind.u32.wrap (c + (x + y)) = (c + (x + y)) % 4294967296 := by rw [IntKind.wrap_u32]
    by_cases hgo : k < max n m ∨ 0 < c
    · have hk1 : k ≤ max n m := by
        rcases hgo with h | h
        · omega
        · by_cases hh : max n m < k
          · have := hkc.out hh; omega
          · omega
      have HG := Lib.hid hgo
      clear hgo
      by_cases hlt : k < max n m
      all_goals by_cases hnm : n < m
      all_goals
        first | (have hp1 : k < m := by omega) | skip
        first | (have hp2 : k < n := by omega) | skip
        first | (have hp3 : ¬ k < m := by omega) | skip
        first | (have hp4 : ¬ k < n := by omega) | skip
        first | (have hp5 : 0 < c := by have := HG.out; omega) | skip
        go_wp2_with fail
        refine DA1.mono ?_
        rintro e w' ⟨rfl, rfl⟩
        go_wp2_with fail
        refine DB1.mono ?_
        rintro e w' ⟨rfl, rfl⟩
        go_wp2_with (at_builtin; refine wpList_append_own _ rfl _ _ 29 rfl w.heap.size 50 i0 (.int .u32 0) 1 4 Tryz.underlying29 hi hz0 hz1 hz2 rfl (by decide) _ _ _ rfl (hown.alloc _) ⟨wr.heap.size, 0, none⟩ 1 1 [.int .u32 ((c + (x + y)) % 4294967296)] rfl rfl ?c1 ?c2 ?c3 ?c4 ?c5 ?_)
        case c1 => intro t u ht; match t, ht with | 0, ht => simp at ht; subst ht; simp [Addr.add]
        case c2 => intro u hu; simp at hu; subst hu; rfl
        case c3 => unfold maxLen; omega
        case c4 => omega
        case c5 => simp; omega
        intro v' w1 hown1 hgrow1 _
        go_wp2
        go_roundw
        case rel => exact ⟨k + 1, (c + (x + y)) / 4294967296, od ++ [(c + (x + y)) % 4294967296], by omega, HK.out.2.1, HK.out.2.2.1,
            Lib.hid (fun hh => by have h2 := HZ.out (by omega); rw [h2.1, h2.2]; omega), Lib.hid (by simp [HL.out]), Lib.hid HK.out.1, Lib.hid HK.out.2.2.2, by go_num, rfl, by simpa using hown1,
            (hnx.alloc hsz _).grown hgrow1 (by simp; omega) (fun j hj => (hown.lt j hj).1)⟩
        case measure => simp [intOf]; omega
    · have hk2 : ¬ k < max n m := fun h => hgo (.inl h)
      have hp3 : ¬ k < m := by omega
      have hp4 : ¬ k < n := by omega
      obtain rfl : c = 0 := by have : ¬ 0 < c := fun h => hgo (.inr h)
                               omega
      have HS : Hid (val od = val A + val B) := Lib.hid (by
        have h1 := HV.out
        rw [List.take_of_length_le (by rw [← HN.out]; omega), List.take_of_length_le (by rw [← HM.out]; omega)] at h1
        omega)
      have HT := trim_any _ od HD.out (by rw [HL.out]; omega) wr (RL.own HL.out hown)
      have HO : Hid (od.length ≤ M + 1) := Lib.hid (by rw [HL.out]; omega)
      clear hgo hk2
      by_cases hnm : n < m
      all_goals
        go_wp2_with fail
        refine HT.mono ?_
        rintro e w' ⟨v, rfl, hnv, rfl⟩
        rw [HS.out] at hnv
        go_wp2
        go_ret
        exact ⟨_, rfl, hnv.mono HO.out, hnx⟩
/-- the sum of two natural numbers -/
theorem natAdd_any (va vb : Value) (n m M : Nat) (x y : Int) (hn : n ≤ M) (hm : m ≤ M) (hM : M ≤ 900) (w : World) (ha : NV w n x va) (hb : NV w m y vb) :
    Calls Tryz.prog 32 #[va, vb] w (NRet (M + 1) (x + y) w) := by
  obtain ⟨A, ra, hA, rfl, la⟩ := ha
  obtain ⟨B, rb, hB, rfl, lb⟩ := hb
  exact natAdd_ds va vb A B M hA hB (by omega) (by omega) hM w ra rb
end Go.Proofs.YtjejffijhlppmaaGreatDoor
