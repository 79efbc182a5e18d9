/-
  Contracts of the questions whether a division or a test is turned (n bits).
-/
import Derived.Test.YtdkcmpblfkgckaaBase
namespace Go.Proofs.Ytdkcmpblfkgckaa
open Go.Dv Go.RowKit

theorem umagicOK_any (n c : Int) (hn : isW n) (w : World) :
    Calls Try.prog 10 #[.int .u64 n, .int .i64 c] w fun e w' => e = .returned (.bool (umOK n c)) ∧ w = w' := by
  obtain ⟨h0, h1⟩ := isW_range hn
  have H := Lib.hid (umOK_eq hn c)
  clear hn
  go_enter Try.func10, Try.ntmps10
  go_wp2
  go_ret
  exact ⟨ret_bool H.out, rfl⟩
theorem udivisibleOK_any (n c : Int) (hn : isW n) (w : World) :
    Calls Try.prog 14 #[.int .u64 n, .int .i64 c] w fun e w' => e = .returned (.bool (umOK n c)) ∧ w = w' := by
  obtain ⟨h0, h1⟩ := isW_range hn
  have H := Lib.hid (umOK_eq hn c)
  clear hn
  go_enter Try.func14, Try.ntmps14
  go_wp2
  go_ret
  exact ⟨ret_bool H.out, rfl⟩
theorem smagicOK_any (n c : Int) (hc : c < 9223372036854775808) (w : World) :
    Calls Try.prog 13 #[.int .u64 n, .int .i64 c] w fun e w' => e = .returned (.bool (smOK c)) ∧ w = w' := by
  by_cases h : c < 0
  · have H : Hid (smOK c = false) := by show smOK c = false; unfold smOK; simp [h]
    clear hc
    go_enter Try.func13, Try.ntmps13
    go_wp2
    go_ret
    exact ⟨ret_bool H.out.symm, rfl⟩
  · have h1 : 0 ≤ c := by omega
    have e : smOK c = (bits .and .i64 c (wrap64 (c - 1)) != 0) := by rw [smOK_eq c h1 hc]; unfold smOK; simp [h1]
    have H := Lib.hid e
    clear e hc h
    go_enter Try.func13, Try.ntmps13
    go_wp2
    go_ret
    exact ⟨ret_bool (by rw [H.out]), rfl⟩
theorem sdivisibleOK_any (n c : Int) (hc : c < 9223372036854775808) (w : World) :
    Calls Try.prog 15 #[.int .u64 n, .int .i64 c] w fun e w' => e = .returned (.bool (smOK c)) ∧ w = w' := by
  by_cases h : c < 0
  · have H : Hid (smOK c = false) := by show smOK c = false; unfold smOK; simp [h]
    clear hc
    go_enter Try.func15, Try.ntmps15
    go_wp2
    go_ret
    exact ⟨ret_bool H.out.symm, rfl⟩
  · have h1 : 0 ≤ c := by omega
    have e : smOK c = (bits .and .i64 c (wrap64 (c - 1)) != 0) := by rw [smOK_eq c h1 hc]; unfold smOK; simp [h1]
    have H := Lib.hid e
    clear e hc h
    go_enter Try.func15, Try.ntmps15
    go_wp2
    go_ret
    exact ⟨ret_bool (by rw [H.out]), rfl⟩
end Go.Proofs.Ytdkcmpblfkgckaa
