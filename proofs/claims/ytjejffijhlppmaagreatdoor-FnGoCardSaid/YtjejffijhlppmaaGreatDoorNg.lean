/-
  The contract of NatMul.
-/
import Derived.Test.YtjejffijhlppmaaGreatDoorNf
import Derived.Deep.QuietTactic
import Derived.BigQuiet
import Derived.IntWalk
namespace Go.Dv
open Go.RowKit
set_option linter.unusedVariables false
theorem mul_keep {od B : List Int} {i k N : Nat} {c x V0 : Int} (hB : dgs B) (hod : dgs od) (hl : od.length = N) (hik : i + k < N) (c0 : 0 ≤ c) (c1 : c < 4294967296) (x0 : 0 ≤ x) (x1 : x < 4294967296)
    (h : val od + c * bse (i + k) = V0 + bse i * (x * val (B.take k))) {o y : Int} (ho : od.getD (i + k) 0 = o) (hy : B.getD k 0 = y) :
    dgs (od.set (i + k) ((c + (o + x * y)) % 4294967296)) ∧ 0 ≤ (c + (o + x * y)) / 4294967296 ∧ (c + (o + x * y)) / 4294967296 < 4294967296 ∧ c + (o + x * y) < 18446744073709551616 ∧ 0 ≤ x * y ∧ x * y < 18446744065119617026 ∧
    val (od.set (i + k) ((c + (o + x * y)) % 4294967296)) + (c + (o + x * y)) / 4294967296 * bse (i + (k + 1)) = V0 + bse i * (x * val (B.take (k + 1))) := by
  have ro := dgs_getD hod (i + k)
  have ry := dgs_getD hB k
  rw [ho] at ro
  rw [hy] at ry
  have p0 : 0 ≤ x * y := Int.mul_nonneg x0 ry.1
  have p1 : x * y ≤ 4294967295 * 4294967295 := Int.mul_le_mul (by omega) (by omega) ry.1 (by omega)
  have hr := mul_round (val od) c (bse (i + k)) o x y _ h
  refine ⟨dgs_set hod _ (by omega) (by omega), by omega, by omega, by omega, p0, by omega, ?_⟩
  rw [val_set od (i + k) _ (by omega), ho, show i + (k + 1) = i + k + 1 by omega, bse_succ, hr, val_take_succ, hy, bse_add]
  grind
theorem mul_last {A B od : List Int} {i m N : Nat} {c x : Int} (hod : dgs od) (hl : od.length = N) (hik : i + m < N) (c0 : 0 ≤ c) (c1 : c < 4294967296) (hm : B.length = m) (hx : A.getD i 0 = x)
    (h : val od + c * bse (i + m) = val (A.take i) * val B + bse i * (x * val (B.take m))) (hz : ∀ j, i + m ≤ j → od.getD j 0 = 0) :
    dgs (od.set (i + m) c) ∧ val (od.set (i + m) c) = val (A.take (i + 1)) * val B ∧ ∀ j, i + 1 + m ≤ j → (od.set (i + m) c).getD j 0 = 0 := by
  refine ⟨dgs_set hod _ c0 c1, ?_, fun j hj => ?_⟩
  · rw [val_set od (i + m) _ (by omega), hz _ (Nat.le_refl _), val_take_succ, hx]
    have hB2 : B.take m = B := List.take_of_length_le (by omega)
    rw [hB2] at h
    generalize val od = V at *
    generalize bse (i + m) = P at *
    generalize val (A.take i) = S at *
    generalize bse i = b at *
    generalize val B = vB at *
    have e1 : P * (c - 0) = c * P := by rw [Int.sub_zero, Int.mul_comm]
    have e2 : (S + b * x) * vB = S * vB + b * (x * vB) := by rw [Int.add_mul, Int.mul_assoc]
    omega
  · rw [getD_set_other _ _ _ _ (by omega)]; exact hz j (by omega)
end Go.Dv
namespace Go.Proofs.YtjejffijhlppmaaGreatDoor
open Go.Dv Go.RowKit
set_option linter.unusedVariables false

theorem ownsRow_drewN {w : World} {base : Nat} {e : TypeId} {size : Nat} {v : Value} {n : Nat} {xs : List Value} (h : w.ownsRow base e size v n xs) (q : Nat) : (w.drewN q).ownsRow base e size v n xs := h

set_option maxHeartbeats 4000000 in
set_option maxRecDepth 100000 in
theorem natMul_some (ba oa ca bb ob cb n m : Nat) (A B : List Int) (hA : dgs A) (hB : dgs B) (hn : A.length = n) (hm : B.length = m) (hnc : n ≤ ca) (hmc : m ≤ cb) (hn1 : n ≤ 400) (hm1 : m ≤ 400) (w : World)
    (ra : ∀ j, j < n → w.cell? ⟨ba, oa + j, none⟩ = some (.int .u32 (A.getD j 0))) (rb : ∀ j, j < m → w.cell? ⟨bb, ob + j, none⟩ = some (.int .u32 (B.getD j 0))) :
    Calls Tryz.prog 31 #[.slice (some ⟨ba, oa, none⟩) n ca, .slice (some ⟨bb, ob, none⟩) m cb] w (NRet (n + m) (val A * val B) w) := by
  obtain ⟨i0, hi, hz0, hz1, hz2⟩ := info_parts infoU
  have HRA := Lib.hid ra
  have HRB := Lib.hid rb
  have HN := Lib.hid hn
  have HM := Lib.hid hm
  clear ra rb hn hm
  go_enter Tryz.func31, Tryz.ntmps31
  go_wp2_with (at_make; refine wpList_make_full _ rfl _ _ 29 rfl w.heap.size 50 i0 (.int .u32 0) 1 Tryz.underlying29 hi hz0 hz1 _ _ _ _ (n + m) rfl rfl (by simp) (by simp) ?b2 ?b3 (Nat.le_refl _) ?_)
  case b2 => rw [hz2]; omega
  case b3 => unfold maxLen; omega
  intro w0 hown0 hgrow0
  have hown0 : w0.ownsRow w.heap.size 50 1 (.slice (some ⟨w.heap.size, 0, none⟩) (n + m) (n + m)) (n + m) ((List.replicate (n + m) (0 : Int)).map (Value.int .u32)) := by
    rw [← made_zeros]; simpa using hown0
  have hb0 := (Below.refl w.heap.size w).grown hgrow0 (Nat.le_refl _) (fun k h => by cases h)
  clear hgrow0
  go_wp2
  go_loopw [6] (fun si wr => ∃ (i : Nat) (od : List Int), i ≤ n ∧ Hid (od.length = n + m) ∧ Hid (dgs od) ∧ Hid (val od = val (A.take i) * val B) ∧ Hid (∀ j, i + m ≤ j → od.getD j 0 = 0) ∧
      si = .int .i64 i ∧ wr.ownsRow w.heap.size 50 1 (.slice (some ⟨w.heap.size, 0, none⟩) (n + m) (n + m)) (n + m) (od.map (Value.int .u32)) ∧ Below w.heap.size w wr)
    (fun si _ => n - (intOf si).toNat)
  case atStart =>
    exact ⟨0, List.replicate (n + m) 0, by omega, Lib.hid (by simp), Lib.hid (dgs_zeros _), Lib.hid (by rw [val_zeros]; simp [val]), Lib.hid (fun j _ => by simp [List.getD, List.getElem?_replicate]; split <;> rfl), rfl, hown0, hb0⟩
  case round =>
    obtain ⟨i, od, hin, HL, HD, HV, HZ, rfl, hown, hnx⟩ := hrel
    obtain ⟨wo, rfl⟩ : ∃ wo : World, wo = wr := ⟨_, rfl⟩
    clear hown0 hb0
    by_cases hlt : i < n
    · obtain ⟨x, hx⟩ : ∃ x, A.getD i 0 = x := ⟨_, rfl⟩
      have rx := dgs_getD hA i
      have hax := HRA.out i hlt
      have hxb : ba < w.heap.size := World.block_lt_of_cell? w _ hax
      rw [hx] at rx hax
      have HX := Lib.hid hx
      clear hx
      go_wp2
      go_loopw [7, 8] (fun sc sk wr => ∃ (k : Nat) (c : Int) (od : List Int), k ≤ m ∧ 0 ≤ c ∧ c < 4294967296 ∧ Hid (od.length = n + m) ∧ Hid (dgs od) ∧ Hid (val od + c * bse (i + k) = val (A.take i) * val B + bse i * (x * val (B.take k))) ∧ Hid (∀ j, i + m ≤ j → od.getD j 0 = 0) ∧
          sc = .int .u64 c ∧ sk = .int .i64 k ∧ wr.ownsRow w.heap.size 50 1 (.slice (some ⟨w.heap.size, 0, none⟩) (n + m) (n + m)) (n + m) (od.map (Value.int .u32)) ∧ Below w.heap.size w wr)
        (fun _ sk _ => m - (intOf sk).toNat)
      case atStart => exact ⟨0, 0, od, by omega, by omega, by omega, HL, HD, Lib.hid (by rw [HV.out]; simp [val]), HZ, rfl, rfl, hown, hnx⟩
      case round =>
        obtain ⟨k, c, od2, hkm, c0, c1, HL2, HD2, HV2, HZ2, rfl, rfl, hown2, hnx2⟩ := hrel
        clear hown hnx
        by_cases hk : k < m
        · obtain ⟨o, ho⟩ : ∃ o, od2.getD (i + k) 0 = o := ⟨_, rfl⟩
          obtain ⟨y, hy⟩ : ∃ y, B.getD k 0 = y := ⟨_, rfl⟩
          obtain ⟨p, hp⟩ : ∃ p, x * y = p := ⟨_, rfl⟩
          have ro := dgs_getD HD2.out (i + k)
          have ry := dgs_getD hB k
          have hk0 := mul_keep hB HD2.out HL2.out (show i + k < n + m by omega) c0 c1 rx.1 rx.2 HV2.out ho hy
          rw [hp] at hk0
          have HK := Lib.hid hk0
          clear hk0
          have hby := HRB.out k hk
          have hyb : bb < w.heap.size := World.block_lt_of_cell? w _ hby
          have f1 : wr.cell? ⟨ba, oa + i, none⟩ = some (.int .u32 x) := (hnx2.cell (p := ⟨ba, oa + i, none⟩) hxb).trans hax
          have f2 : wr.cell? ⟨bb, ob + k, none⟩ = some (.int .u32 y) := by rw [← hy]; exact (hnx2.cell (p := ⟨bb, ob + k, none⟩) hyb).trans hby
          have f3 : wr.cell? ⟨w.heap.size, i + k, none⟩ = some (.int .u32 o) := by
            rw [hown2.cellAt (i + k) (by omega), map_getD od2 (i + k) (by rw [HL2.out]; omega), ho]
          have f4 : wr.frozen? ⟨w.heap.size, i + k, none⟩ = false := hown2.frozenAt _
          rw [ho] at ro
          rw [hy] at ry
          have b1 := HK.out.2.2.2.1
          have b2 := HK.out.2.2.2.2.1
          have b3 := HK.out.2.2.2.2.2.1
          have q0 : (0 : Int) ≤ (i : Int) + k := by omega
          have q1 : ((i : Int) + k).toNat = i + k := by omega
          have q2 : IntKind.i64.wrap ((i : Int) + k) = (i : Int) + k := IntWalk.i64_in _ (by omega)
          have q3 : IntKind.u64.wrap (x * y) = p := by rw [hp, IntKind.wrap_u64]; omega
          have q4 : IntKind.u64.wrap (o + p) = o + p := by rw [IntKind.wrap_u64]; omega
          have q5 : IntKind.u64.wrap (c + (o + p)) = c + (o + p) := by rw [IntKind.wrap_u64]; omega
          have q6 : (i : Int) + k < (n : Int) + m := by omega
          have q7 : i + k < n + m := by omega
          have HP := Lib.hid hp
          clear ho hy hp hax hby
          go_wp2
          go_quiet (fail)
          go_wp2
          go_roundw
          case rel =>
            have hst := hown2.stored (i + k) (.int .u32 ((c + (o + p)) % 4294967296))
            rw [← List.map_set] at hst
            exact ⟨k + 1, (c + (o + p)) / 4294967296, od2.set (i + k) ((c + (o + p)) % 4294967296), by omega, HK.out.2.1, HK.out.2.2.1, Lib.hid (by rw [List.length_set]; exact HL2.out), Lib.hid HK.out.1, Lib.hid HK.out.2.2.2.2.2.2,
              Lib.hid (fun j hj => (getD_set_other _ _ _ _ (by omega)).trans (HZ2.out j hj)), rfl, by go_num, ownsRow_drewN hst.1 _, below_drewN (hnx2.setCell (Nat.le_refl _) _) _⟩
          case measure => simp [intOf]; omega
        · obtain rfl : k = m := by omega
          have f4 : wr.frozen? ⟨w.heap.size, i + k, none⟩ = false := hown2.frozenAt _
          have f3 : wr.cell? ⟨w.heap.size, i + k, none⟩ = some (.int .u32 0) := by
            rw [hown2.cellAt (i + k) (by omega), map_getD od2 (i + k) (by rw [HL2.out]; omega), HZ2.out _ (Nat.le_refl _)]
          have HK := Lib.hid (mul_last HD2.out HL2.out (show i + k < n + k by omega) c0 c1 HM.out HX.out HV2.out HZ2.out)
          have q0 : (0 : Int) ≤ (i : Int) + k := by omega
          have q1 : ((i : Int) + k).toNat = i + k := by omega
          have q3 : c % 4294967296 = c := by omega
          have q7 : i + k < n + k := by omega
          clear hax
          go_wp2
          go_roundw
          case rel =>
            have hst := hown2.stored (i + k) (.int .u32 c)
            rw [← List.map_set] at hst
            exact ⟨i + 1, od2.set (i + k) c, by omega, Lib.hid (by rw [List.length_set]; exact HL2.out), Lib.hid HK.out.1, Lib.hid HK.out.2.1, Lib.hid HK.out.2.2, by go_num, hst.1, hnx2.setCell (Nat.le_refl _) _⟩
          case measure => simp [intOf]; omega
    · obtain rfl : i = n := by omega
      have HS : Hid (val od = val A * val B) := Lib.hid (by rw [HV.out, List.take_of_length_le (by rw [HN.out]; omega)])
      have HT := trim_any _ od HD.out (by rw [HL.out]; omega) wo (RL.own HL.out hown)
      have HO : Hid (od.length ≤ i + m) := Lib.hid (by rw [HL.out]; omega)
      go_wp2_with fail
      refine HT.mono ?_
      rintro e w' ⟨v, rfl, hnv, rfl⟩
      rw [HS.out] at hnv
      go_wp2
      go_ret
      exact ⟨_, rfl, hnv.mono HO.out, hnx⟩

set_option maxHeartbeats 1000000 in
set_option maxRecDepth 100000 in
theorem natMul_none (aa : Option Addr) (ab : Option Addr) (ca cb m : Nat) (hm1 : m ≤ 400) (w : World) :
    Calls Tryz.prog 31 #[.slice aa 0 ca, .slice ab m cb] w (NRet m 0 w) := by
  obtain ⟨i0, hi, hz0, hz1, hz2⟩ := info_parts infoU
  go_enter Tryz.func31, Tryz.ntmps31
  go_wp2_with (at_make; refine wpList_make_full _ rfl _ _ 29 rfl w.heap.size 50 i0 (.int .u32 0) 1 Tryz.underlying29 hi hz0 hz1 _ _ _ _ m rfl rfl (by simp) (by simp) ?b2 ?b3 (Nat.le_refl _) ?_)
  case b2 => rw [hz2]; omega
  case b3 => unfold maxLen; omega
  intro w0 hown0 hgrow0
  have hown0 : w0.ownsRow w.heap.size 50 1 (.slice (some ⟨w.heap.size, 0, none⟩) m m) m ((List.replicate m (0 : Int)).map (Value.int .u32)) := by
    rw [← made_zeros]; simpa using hown0
  have hb0 := (Below.refl w.heap.size w).grown hgrow0 (Nat.le_refl _) (fun k h => by cases h)
  have HT := trim_any _ _ (dgs_zeros m) (by simp; omega) w0 (RL.own (by simp) hown0)
  clear hgrow0 hown0
  go_wp2
  refine wp_loop_rounds 1 ?_
  rw [rounds_succ]
  go_wp2_with fail
  refine HT.mono ?_
  rintro e w' ⟨v, rfl, hnv, rfl⟩
  rw [val_zeros] at hnv
  go_wp2
  go_ret
  exact ⟨_, rfl, hnv.mono (by simp), hb0⟩
/-- the product of a natural number and one that is not 0 -/
theorem natMul_any (va vb : Value) (n m : Nat) (x y : Int) (hn : n ≤ 400) (hm : m ≤ 400) (hy : 0 < y) (w : World) (ha : NV w n x va) (hb : NV w m y vb) :
    Calls Tryz.prog 31 #[va, vb] w (NRet (n + m) (x * y) w) := by
  obtain ⟨A, ⟨aa, ca, rfl, ea, ra⟩, hA, rfl, la⟩ := ha
  obtain ⟨B, ⟨ab, cb, rfl, eb, rb⟩, hB, rfl, lb⟩ := hb
  rcases rb with rfl | ⟨bb, ob, rfl, rb⟩
  · simp [val] at hy
  · rcases ra with rfl | ⟨ba, oa, rfl, ra⟩
    · have e : val [] * val B = 0 := by simp [val]
      rw [e]
      exact (natMul_none aa _ ca cb B.length (by omega) w).mono fun e w' h => h.mono (by omega)
    · exact (natMul_some ba oa ca bb ob cb A.length B.length A B hA hB rfl rfl ea eb (by omega) (by omega) w ra rb).mono fun e w' h => h.mono (by omega)
end Go.Proofs.YtjejffijhlppmaaGreatDoor
