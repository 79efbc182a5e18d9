/-
  The contract of NatShr.
-/
import Derived.Test.YtjejffijhlppmaaGreatDoorNg
namespace Go.Dv
open Go.RowKit
set_option linter.unusedVariables false
/-- a number moved right in new memory, and whether nothing was left out -/
def ShrRet (n : Nat) (x : Int) (K : Nat) (w : World) (e : Ending) (w' : World) : Prop := ∃ v ex, e = .returned (.tuple #[v, .bool ex]) ∧ NV w' n (x / 2 ^ K) v ∧ (ex = true → x % 2 ^ K = 0) ∧ Below w.heap.size w w'
theorem or_join64 (x y : Int) (x0 : 0 ≤ x) (x1 : x < 4294967296) (y0 : 0 ≤ y) (y1 : y < 4294967296) : bits .or .u64 x (y * 4294967296) = x + y * 4294967296 := by
  rw [u64_or x _ x0 (by omega) (by omega) (by omega)]
  have h := nat_join 32 (y * 4294967296).toNat x.toNat (by omega) (by omega)
  rw [Nat.or_comm] at h
  rw [h]; omega
end Go.Dv
namespace Go.Proofs.YtjejffijhlppmaaGreatDoor
open Go.Dv Go.RowKit
set_option linter.unusedVariables false

theorem and_low32 (d : Int) (r : Nat) (hr : r < 32) (d0 : 0 ≤ d) (d1 : d < 4294967296) : bits .and .u32 d (2 ^ r - 1) = d % 2 ^ r := by
  have hp := two_pow_32 r hr
  rw [u32_and d _ d0 d1 (by omega) (by omega)]
  have h2 : ((2 ^ r : Nat) : Int) = (2 : Int) ^ r := Int.natCast_pow 2 _
  have h3 : ((2 : Int) ^ r - 1).toNat = 2 ^ r - 1 := by omega
  rw [h3, Nat.and_two_pow_sub_one_eq_mod]
  have h4 : ((d.toNat % 2 ^ r : Nat) : Int) = (d.toNat : Int) % ((2 ^ r : Nat) : Int) := Int.natCast_emod _ _
  rw [h4, h2]
  congr 1; omega

set_option maxHeartbeats 1000000 in
theorem natShr_none (aa : Option Addr) (ca : Nat) (z r : Nat) (N : Int) (hN : N = 32 * z + r) (hr : r < 32) (hz : z ≤ 10) (w : World) :
    Calls Tryz.prog 35 #[.slice aa 0 ca, .int .i64 N] w fun e w' => e = .returned (.tuple #[.slice none 0 0, .bool true]) ∧ w = w' := by
  have hq : N / 32 = (z : Int) := by omega
  have n0 : 0 ≤ N := by omega
  have n1 : N ≤ 1000 := by omega
  clear hN
  by_cases hz0 : 0 < z
  · go_enter Tryz.func35, Tryz.ntmps35
    go_wp2
    refine wp_loop_rounds 1 ?_
    rw [rounds_succ]
    go_wp2
    go_ret2
    exact ⟨rfl, rfl⟩
  · obtain rfl : z = 0 := by omega
    go_enter Tryz.func35, Tryz.ntmps35
    go_wp2
    refine wp_loop_rounds 1 ?_
    rw [rounds_succ]
    go_wp2
    go_ret2
    exact ⟨rfl, rfl⟩

set_option maxHeartbeats 4000000 in
set_option maxRecDepth 100000 in
theorem natShr_some (ba oa ca la : Nat) (A : List Int) (hA : dgs A) (hl : A.length = la) (hlc : la ≤ ca) (hl1 : la ≤ 400) (z r : Nat) (N : Int) (hN : N = 32 * z + r) (hr : r < 32) (hz : z ≤ 10) (w : World)
    (ra : ∀ j, j < la → w.cell? ⟨ba, oa + j, none⟩ = some (.int .u32 (A.getD j 0))) :
    Calls Tryz.prog 35 #[.slice (some ⟨ba, oa, none⟩) la ca, .int .i64 N] w (ShrRet la (val A) (32 * z + r) w) := by
  obtain ⟨i0, hi, hz0, hz1, hz2⟩ := info_parts infoU
  have hq : N / 32 = (z : Int) := by omega
  have hm : N % 32 = (r : Int) := by omega
  have n0 : 0 ≤ N := by omega
  have n1 : N ≤ 1000 := by omega
  have HRA := Lib.hid ra
  have HL := Lib.hid hl
  clear ra hl hN
  go_enter Tryz.func35, Tryz.ntmps35
  go_wp2
  go_loop [6, 7] (fun se si => ∃ (i : Nat) (ex : Bool), i ≤ z ∧ i ≤ la ∧ Hid (ex = true → ∀ j, j < i → A.getD j 0 = 0) ∧ si = .int .i64 i ∧ se = .bool ex) (fun _ si => la - (intOf si).toNat)
  case atStart => exact ⟨0, true, by omega, by omega, Lib.hid (fun _ j hj => absurd hj (by omega)), rfl, rfl⟩
  case round =>
    obtain ⟨i, ex, hiz, hil, HE, rfl, rfl⟩ := hrel
    by_cases hgo : i < z ∧ i < la
    · obtain ⟨h1, h2⟩ := hgo
      have hax := HRA.out i h2
      have rx := dgs_getD hA i
      obtain ⟨d, hd⟩ : ∃ d, A.getD i 0 = d := ⟨_, rfl⟩
      rw [hd] at hax rx
      have HDd := Lib.hid hd
      clear hd
      cases ex
      · go_wp2
        go_round
        case rel => exact ⟨i + 1, false, by omega, by omega, Lib.hid (fun h => by cases h), by go_num, rfl⟩
        case measure => simp [intOf]; omega
      · by_cases hd0 : d = 0
        · subst hd0
          go_wp2
          go_round
          case rel => exact ⟨i + 1, true, by omega, by omega, Lib.hid (fun _ j hj => by
            by_cases hji : j < i
            · exact HE.out rfl j hji
            · obtain rfl : j = i := by omega
              exact HDd.out), by go_num, rfl⟩
          case measure => simp [intOf]; omega
        · have hdb : (d == 0) = false := by simpa using hd0
          clear hd0
          go_wp2
          go_round
          case rel => exact ⟨i + 1, false, by omega, by omega, Lib.hid (fun h => by cases h), by go_num, rfl⟩
          case measure => simp [intOf]; omega
    · by_cases hw : la ≤ z
      · obtain rfl : i = la := by omega
        have HW := Lib.hid (shr_whole A z hA (by rw [HL.out]; omega) r)
        have hgo2 : ¬ i < i := by omega
        have hgo3 : ¬ z < i := by omega
        clear hgo
        by_cases hzi : i < z
        all_goals
          go_wp2
          go_ret2
          exact ⟨_, _, rfl, by rw [HW.out.1]; exact ⟨[], ⟨none, 0, rfl, Nat.le_refl _, .inl rfl⟩, dgs_nil, rfl, Nat.zero_le _⟩, fun h => HW.out.2 (fun j hj => HE.out h j (by rw [HL.out] at hj; exact hj)), Below.refl _ _⟩
      · obtain rfl : i = z := by omega
        have hgo2 : ¬ i < i := by omega
        have hzl : i < la := by omega
        have hzc : i < ca := by omega
        have hax := HRA.out i hzl
        have rx := dgs_getD hA i
        have HE2 : Hid (ex = true → A.getD i 0 % 2 ^ r = 0 → val A % 2 ^ (32 * i + r) = 0) := Lib.hid (fun h h0 => shr_exact A i r (by omega) (HE.out h) h0)
        obtain ⟨d, hd⟩ : ∃ d, A.getD i 0 = d := ⟨_, rfl⟩
        rw [hd] at hax rx HE2
        obtain ⟨t0, t1⟩ := two_pow_32 r hr
        have hal := and_low32 d r hr rx.1 rx.2
        obtain ⟨T, hT⟩ : ∃ T : Int, (2 : Int) ^ r = T := ⟨_, rfl⟩
        rw [hT] at t0 t1 hal
        have HT := Lib.hid hT
        have HD : Hid (∀ b, (bits BinOp.and IntKind.u32 d (T - 1) == 0) = b → b = true → d % 2 ^ r = 0) := Lib.hid (fun b h1 h2 => by
          rw [h2, hal] at h1; rw [HT.out]; simpa using h1)
        have hw1 : IntKind.u32.wrap (2 ^ r) = T := by rw [hT, IntKind.wrap_u32]; omega
        have hw2 : IntKind.u32.wrap (T - 1) = T - 1 := by rw [IntKind.wrap_u32]; omega
        clear hd hal hgo hw HE hT
        have HDR := Lib.hid (dgs_drop hA i)
        have HRL : Hid (RL w (.slice (some ⟨ba, oa + i, none⟩) (la - i) (ca - i)) (A.drop i)) := Lib.hid (by
          have hdl : (A.drop i).length = la - i := by rw [List.length_drop, HL.out]
          refine ⟨_, ca - i, by rw [hdl], by omega, .inr ⟨ba, oa + i, rfl, fun j hj => ?_⟩⟩
          rw [getD_drop, Nat.add_assoc]
          exact HRA.out (i + j) (by omega))
        cases ex
        · go_wp2
          go_quiet (fail)
          go_wp2
          go_loopw [8, 9] (fun so sk wr => ∃ (k : Nat) (od : List Int), k ≤ la - i ∧ Hid (od = (List.range k).map (shd (A.drop i) r)) ∧ Hid (od.length = k) ∧ sk = .int .i64 k ∧ wr.ownsRow w.heap.size 50 1 so k (od.map (Value.int .u32)) ∧ Below w.heap.size w wr)
            (fun _ sk _ => la - i - (intOf sk).toNat)
          case atStart => exact ⟨0, [], by omega, Lib.hid rfl, Lib.hid rfl, rfl, World.ownsRow_nil _ _ _ _, below_drewN (Below.refl _ _) _⟩
          case round =>
            obtain ⟨k, od, hkl, HO, HOL, rfl, hown, hnx⟩ := hrel
            have hsz := hnx.size
            by_cases hk : k < la - i
            · have DA1 := digit_any _ (A.drop i) (k : Int) (by omega) HDR.out wr (HRL.out.below hnx)
              have DB1 := digit_any _ (A.drop i) ((k : Int) + 1) (by omega) HDR.out wr (HRL.out.below hnx)
              have rx := dgt_range HDR.out (k : Int)
              have ry := dgt_range HDR.out ((k : Int) + 1)
              have HS : Hid ((dgt (A.drop i) (k : Int) + dgt (A.drop i) ((k : Int) + 1) * 4294967296) / 2 ^ r % 4294967296 = shd (A.drop i) r k) := Lib.hid rfl
              generalize dgt (A.drop i) (k : Int) = x at *
              generalize dgt (A.drop i) ((k : Int) + 1) = y at *
              have hor := or_join64 x y rx.1 rx.2 ry.1 ry.2
              obtain ⟨U, hU⟩ : ∃ U, (x + y * 4294967296) / 2 ^ r = U := ⟨_, rfl⟩
              rw [hU] at HS
              go_wp2_with fail
              refine DA1.mono ?_
              rintro e w' ⟨rfl, rfl⟩
              go_wp2_with fail
              refine DB1.mono ?_
              rintro e w' ⟨rfl, rfl⟩
              go_wp2_with (at_builtin; refine wpList_append_own _ rfl _ _ 29 rfl w.heap.size 50 i0 (.int .u32 0) 1 4 Tryz.underlying29 hi hz0 hz1 hz2 rfl (by decide) _ _ _ rfl (hown.alloc _) ⟨wr.heap.size, 0, none⟩ 1 1 [.int .u32 (U % 4294967296)] rfl rfl ?c1 ?c2 ?c3 ?c4 ?c5 ?_)
              case c1 => intro t u ht; match t, ht with | 0, ht => simp at ht; subst ht; simp [Addr.add]
              case c2 => intro u hu; simp at hu; subst hu; rfl
              case c3 => unfold maxLen; omega
              case c4 => omega
              case c5 => simp; omega
              intro v' w1 hown1 hgrow1 _
              go_wp2
              go_roundw
              case rel => exact ⟨k + 1, od ++ [U % 4294967296], by omega, Lib.hid (by rw [HO.out, HS.out, List.range_succ]; simp), Lib.hid (by simp [HOL.out]), by go_num, by simpa using hown1, (hnx.alloc hsz _).grown hgrow1 (by simp; omega) (fun j hj => (hown.lt j hj).1)⟩
              case measure => simp [intOf]; omega
            · obtain rfl : k = la - i := by omega
              have HV : Hid (val od = val A / 2 ^ (32 * i + r)) := Lib.hid (by
                rw [HO.out, shr_drop A i hA r, ← shd_val (A.drop i) r (by omega) HDR.out]
                congr 3
                rw [List.length_drop, HL.out])
              have HT := trim_any _ od (by rw [HO.out]; exact shd_dgs _ _ _) (by rw [HOL.out]; omega) wr (RL.own HOL.out hown)
              have HOL2 : Hid (od.length ≤ la) := Lib.hid (by rw [HOL.out]; omega)
              go_wp2_with fail
              refine HT.mono ?_
              rintro e w' ⟨v, rfl, hnv, rfl⟩
              rw [HV.out] at hnv
              go_wp2
              go_ret2
              first
                | exact ⟨_, _, rfl, hnv.mono HOL2.out, fun h => HE2.out (by trivial) (HD.out _ HB.out h), hnx⟩
                | exact ⟨_, _, rfl, hnv.mono HOL2.out, fun h => (by cases h), hnx⟩
        · obtain ⟨bv, hb⟩ : ∃ bv, (bits BinOp.and IntKind.u32 d (T - 1) == 0) = bv := ⟨_, rfl⟩
          all_goals
            have HB := Lib.hid hb
            have HM : Hid (r = (N % 32).toNat) := Lib.hid (by omega)
            have hm0 : 0 ≤ N % 32 := by omega
            have hm1 : N % 32 < 32 := by omega
            go_wp2
            go_quiet (fail)
            clear hm
            go_wp2
            go_loopw [8, 9] (fun so sk wr => ∃ (k : Nat) (od : List Int), k ≤ la - i ∧ Hid (od = (List.range k).map (shd (A.drop i) r)) ∧ Hid (od.length = k) ∧ sk = .int .i64 k ∧ wr.ownsRow w.heap.size 50 1 so k (od.map (Value.int .u32)) ∧ Below w.heap.size w wr)
              (fun _ sk _ => la - i - (intOf sk).toNat)
            case atStart => exact ⟨0, [], by omega, Lib.hid rfl, Lib.hid rfl, rfl, World.ownsRow_nil _ _ _ _, below_drewN (Below.refl _ _) _⟩
            case round =>
              obtain ⟨k, od, hkl, HO, HOL, rfl, hown, hnx⟩ := hrel
              have hsz := hnx.size
              by_cases hk : k < la - i
              · have DA1 := digit_any _ (A.drop i) (k : Int) (by omega) HDR.out wr (HRL.out.below hnx)
                have DB1 := digit_any _ (A.drop i) ((k : Int) + 1) (by omega) HDR.out wr (HRL.out.below hnx)
                have rx := dgt_range HDR.out (k : Int)
                have ry := dgt_range HDR.out ((k : Int) + 1)
                have HS : Hid ((dgt (A.drop i) (k : Int) + dgt (A.drop i) ((k : Int) + 1) * 4294967296) / 2 ^ r % 4294967296 = shd (A.drop i) r k) := Lib.hid rfl
                generalize dgt (A.drop i) (k : Int) = x at *
                generalize dgt (A.drop i) ((k : Int) + 1) = y at *
                have hor := or_join64 x y rx.1 rx.2 ry.1 ry.2
                obtain ⟨U, hU⟩ : ∃ U, (x + y * 4294967296) / 2 ^ (N % 32).toNat = U := ⟨_, rfl⟩
                rw [HM.out] at HS
                rw [hU] at HS
                go_wp2_with fail
                refine DA1.mono ?_
                rintro e w' ⟨rfl, rfl⟩
                go_wp2_with fail
                refine DB1.mono ?_
                rintro e w' ⟨rfl, rfl⟩
                go_wp2_with (at_builtin; refine wpList_append_own _ rfl _ _ 29 rfl w.heap.size 50 i0 (.int .u32 0) 1 4 Tryz.underlying29 hi hz0 hz1 hz2 rfl (by decide) _ _ _ rfl (hown.alloc _) ⟨wr.heap.size, 0, none⟩ 1 1 [.int .u32 (U % 4294967296)] rfl rfl ?c1 ?c2 ?c3 ?c4 ?c5 ?_)
                case c1 => intro t u ht; match t, ht with | 0, ht => simp at ht; subst ht; simp [Addr.add]
                case c2 => intro u hu; simp at hu; subst hu; rfl
                case c3 => unfold maxLen; omega
                case c4 => omega
                case c5 => simp; omega
                intro v' w1 hown1 hgrow1 _
                go_wp2
                go_roundw
                case rel => exact ⟨k + 1, od ++ [U % 4294967296], by omega, Lib.hid (by rw [HO.out, HS.out, ← HM.out, List.range_succ]; simp), Lib.hid (by simp [HOL.out]), by go_num, by simpa using hown1, (hnx.alloc hsz _).grown hgrow1 (by simp; omega) (fun j hj => (hown.lt j hj).1)⟩
                case measure => simp [intOf]; omega
              · obtain rfl : k = la - i := by omega
                have HV : Hid (val od = val A / 2 ^ (32 * i + r)) := Lib.hid (by
                  rw [HO.out, shr_drop A i hA r, ← shd_val (A.drop i) r (by omega) HDR.out]
                  congr 3
                  rw [List.length_drop, HL.out])
                have HT := trim_any _ od (by rw [HO.out]; exact shd_dgs _ _ _) (by rw [HOL.out]; omega) wr (RL.own HOL.out hown)
                have HOL2 : Hid (od.length ≤ la) := Lib.hid (by rw [HOL.out]; omega)
                go_wp2_with fail
                refine HT.mono ?_
                rintro e w' ⟨v, rfl, hnv, rfl⟩
                rw [HV.out] at hnv
                go_wp2
                go_ret2
                first
                  | exact ⟨_, _, rfl, hnv.mono HOL2.out, fun h => HE2.out (by trivial) (HD.out _ HB.out h), hnx⟩
                  | exact ⟨_, _, rfl, hnv.mono HOL2.out, fun h => (by cases h), hnx⟩

theorem shr_split (K : Int) (h0 : 0 ≤ K) (h1 : K ≤ 300) : ∃ z r : Nat, K = 32 * (z : Int) + (r : Int) ∧ r < 32 ∧ z ≤ 10 ∧ K.toNat = 32 * z + r := ⟨(K / 32).toNat, (K % 32).toNat, by omega, by omega, by omega, by omega⟩
/-- a natural number moved right -/
theorem natShr_any (v : Value) (n : Nat) (x K : Int) (hn : n ≤ 400) (h0 : 0 ≤ K) (h1 : K ≤ 300) (w : World) (h : NV w n x v) :
    Calls Tryz.prog 35 #[v, .int .i64 K] w (ShrRet n x K.toNat w) := by
  obtain ⟨z, r, e1, hr, hz, e2⟩ := shr_split K h0 h1
  obtain ⟨A, ⟨aa, ca, rfl, ea, ra⟩, hA, rfl, la⟩ := h
  rw [e2]
  rcases ra with rfl | ⟨ba, oa, rfl, ra⟩
  · refine (natShr_none aa ca z r K e1 hr hz w).mono fun e w' ⟨he, hw⟩ => ?_
    subst hw
    exact ⟨_, _, he, ⟨[], ⟨none, 0, rfl, Nat.le_refl _, .inl rfl⟩, dgs_nil, by simp [val], Nat.zero_le _⟩, fun _ => by simp [val], Below.refl _ _⟩
  · refine (natShr_some ba oa ca A.length A hA rfl ea (by omega) z r K e1 hr hz w ra).mono fun e w' ⟨v, ex, he, hv, hx, hb⟩ => ?_
    exact ⟨v, ex, he, hv.mono la, hx, hb⟩
end Go.Proofs.YtjejffijhlppmaaGreatDoor
