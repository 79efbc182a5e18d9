/-
  The contracts of the reference's reading of a test: Turned, Divides, DividesSigned, Size.
-/
import Derived.Test.YtdkcmpblfkgckaaDoorUd
namespace Go.Proofs.YtdkcmpblfkgckaaDoor
set_option linter.unusedVariables false
open Go.Dv Go.RowKit

theorem turned_any (n x k : Int) (hn : isW n) (h0 : 0 ≤ k) (h1 : k < n) (w : World) :
    Calls Tryd.prog 19 #[.int .u64 n, .int .u64 x, .int .i64 k] w fun e w' =>
      e = .returned (.int .u64 (turned n x k)) ∧ ∃ q, w.drewN q = w' := by
  obtain ⟨g0, g1⟩ := isW_range hn
  go_enter Tryd.func19, Tryd.ntmps19
  go_wp2_with (first | (go_at_call 10; refine (mask_any _ hn _).mono ?_; rintro e w' ⟨rfl, rfl⟩))
  go_quiet ((go_at_call 10; exact quietS (mask_any _ hn _)))
  go_wp2
  go_ret
  exact ⟨rfl, _, rfl⟩

theorem divides_any (n k m a mx x : Int) (hn : isW n) (h0 : 0 ≤ k) (h1 : k < n) (w : World) :
    Calls Tryd.prog 12 #[.int .u64 n, .agg #[.int .i64 k, .int .u64 m, .int .u64 a, .int .u64 mx], .int .u64 x] w fun e w' =>
      e = .returned (.bool (dvB n k m mx x)) ∧ Below w.heap.size w w' := by
  go_enter Tryd.func12, Tryd.ntmps12
  go_wp2_with fail
  go_quiet ((go_at_call 19; exact quietD (turned_any _ _ _ hn h0 h1 _)))
  go_wp2
  go_ret
  exact ⟨rfl, below_drewN ((Below.refl _ _).alloc (Nat.le_refl _) _) _⟩
theorem dividesSigned_any (n k m a mx x : Int) (hn : isW n) (h0 : 0 ≤ k) (h1 : k < n) (w : World) :
    Calls Tryd.prog 15 #[.int .u64 n, .agg #[.int .i64 k, .int .u64 m, .int .u64 a, .int .u64 mx], .int .i64 x] w fun e w' =>
      e = .returned (.bool (dsB n k m a mx x)) ∧ Below w.heap.size w w' := by
  go_enter Tryd.func15, Tryd.ntmps15
  go_wp2_with fail
  go_quiet ((go_at_call 19; exact quietD (turned_any _ _ _ hn h0 h1 _)))
  go_wp2
  go_ret
  exact ⟨rfl, below_drewN ((Below.refl _ _).alloc (Nat.le_refl _) _) _⟩
theorem size_any (x : Int) (h0 : -9223372036854775808 ≤ x) (h1 : x < 9223372036854775808) (w : World) :
    Calls Tryd.prog 17 #[.int .i64 x] w fun e w' => e = .returned (.int .u64 (siz x)) ∧ w = w' := by
  by_cases h : x < 0
  · have H := Lib.hid (siz_neg x h h0)
    clear h0 h1
    go_enter Tryd.func17, Tryd.ntmps17
    go_wp2
    go_ret
    exact ⟨ret_int H.out, rfl⟩
  · have H := Lib.hid (siz_pos x h h1)
    clear h0 h1
    go_enter Tryd.func17, Tryd.ntmps17
    go_wp2
    go_ret
    exact ⟨ret_int H.out, rfl⟩

theorem zeros_any (x : Int) (h0 : 0 < x) (h1 : x < 18446744073709551616) (w : World) :
    Calls Tryd.prog 18 #[.int .u64 x] w fun e w' => e = .returned (.int .i64 (tz x)) ∧ w = w' := by
  obtain ⟨z0, z1, -⟩ := tz_spec x h0 h1
  go_enter Tryd.func18, Tryd.ntmps18
  go_wp2
  go_loop [0, 3] (fun c i => ∃ k : Nat, (k : Int) ≤ tz x ∧ i = .int .i64 k ∧ c = .int .u64 (x / 2 ^ k)) (fun _ i => (tz x - intOf i).toNat)
  case atStart => exact ⟨0, z0, rfl, by simp⟩
  case round =>
    obtain ⟨k, hk, rfl, rfl⟩ := hrel
    obtain ⟨p0, p1, p2, p3, p4⟩ := half_step x h0 h1 k hk
    have hb := and_one (x / 2 ^ k) (by omega) p1
    by_cases hz : (x / 2 ^ k) % 2 = 0
    · have hb2 : (bits .and .u64 (x / 2 ^ k) 1 == 0) = true := by rw [hb, hz]; rfl
      have hk1 := p3 hz
      have P2 := Lib.hid p2
      clear hz hb p2 p3 p4
      go_wp2
      go_round
      case rel => exact ⟨k + 1, by omega, by go_num, by rw [P2.out]⟩
      case measure => simp [intOf]; omega
    · have hb2 : (bits .and .u64 (x / 2 ^ k) 1 == 0) = false := by rw [hb]; simpa using hz
      have HK := Lib.hid (p4 hz)
      clear hz hb p2 p3 p4
      go_wp2
      go_ret
      exact ⟨ret_int HK.out, rfl⟩
end Go.Proofs.YtdkcmpblfkgckaaDoor
