/-
  Contracts of the questions of the four widths, and of those of n bits where n is written out.
-/
import Derived.Test.YtdkcmpblfkgckaaOk
import Derived.Test.YtdkcmpblfkgckaaDvL
namespace Go.Proofs.Ytdkcmpblfkgckaa
set_option linter.unusedVariables false
open Go.Dv Go.RowKit

theorem and8 (c : Int) : (bits .and .i8 c (IntKind.i8.wrap (c - 1)) != 0) = umOK 8 c := and_pred .i8 c
theorem and16 (c : Int) : (bits .and .i16 c (IntKind.i16.wrap (c - 1)) != 0) = umOK 16 c := and_pred .i16 c
theorem and32 (c : Int) : (bits .and .i32 c (wrap32 (c - 1)) != 0) = umOK 32 c := by
  have h := and_pred .i32 c
  rw [IntWalk.i32_left] at h
  exact h
theorem and64 (c : Int) : (bits .and .i64 c (wrap64 (c - 1)) != 0) = umOK 64 c := by
  have h := and_pred .i64 c
  rw [IntWalk.i64_left] at h
  exact h
theorem isW8 : isW 8 := Or.inl rfl
theorem isW16 : isW 16 := Or.inr (Or.inl rfl)
theorem isW32 : isW 32 := Or.inr (Or.inr (Or.inl rfl))
theorem isW64 : isW 64 := Or.inr (Or.inr (Or.inr rfl))

theorem umagicOK8_any (c : Int) (w : World) :
    Calls Try.prog 16 #[.int .i8 c] w fun e w' => e = .returned (.bool (umOK 8 c)) ∧ w = w' := by
  have H := Lib.hid (and8 c)
  go_enter Try.func16, Try.ntmps16
  go_wp2
  go_ret
  exact ⟨ret_bool H.out, rfl⟩

theorem umagicOK16_any (c : Int) (w : World) :
    Calls Try.prog 17 #[.int .i16 c] w fun e w' => e = .returned (.bool (umOK 16 c)) ∧ w = w' := by
  have H := Lib.hid (and16 c)
  go_enter Try.func17, Try.ntmps17
  go_wp2
  go_ret
  exact ⟨ret_bool H.out, rfl⟩

theorem umagicOK32_any (c : Int) (w : World) :
    Calls Try.prog 18 #[.int .i32 c] w fun e w' => e = .returned (.bool (umOK 32 c)) ∧ w = w' := by
  have H := Lib.hid (and32 c)
  go_enter Try.func18, Try.ntmps18
  go_wp2
  go_ret
  exact ⟨ret_bool H.out, rfl⟩

theorem umagicOK64_any (c : Int) (w : World) :
    Calls Try.prog 19 #[.int .i64 c] w fun e w' => e = .returned (.bool (umOK 64 c)) ∧ w = w' := by
  have H := Lib.hid (and64 c)
  go_enter Try.func19, Try.ntmps19
  go_wp2
  go_ret
  exact ⟨ret_bool H.out, rfl⟩

theorem udivisibleOK8_any (c : Int) (h0 : -128 ≤ c) (h1 : c ≤ 127) (w : World) :
    Calls Try.prog 20 #[.int .i8 c] w fun e w' => e = .returned (.bool (umOK 8 c)) ∧ w = w' := by
  have H := Lib.hid (umOK_eq isW8 c)
  have H2 := Lib.hid (show low 8 c = IntKind.u64.wrap (IntKind.u64.wrap c * 72057594037927936) / 72057594037927936 from rfl)
  go_enter Try.func20, Try.ntmps20
  go_wp2
  go_ret
  exact ⟨ret_bool (by rw [← H.out, H2.out]), rfl⟩

theorem udivisibleOK16_any (c : Int) (h0 : -32768 ≤ c) (h1 : c ≤ 32767) (w : World) :
    Calls Try.prog 21 #[.int .i16 c] w fun e w' => e = .returned (.bool (umOK 16 c)) ∧ w = w' := by
  have H := Lib.hid (umOK_eq isW16 c)
  have H2 := Lib.hid (show low 16 c = IntKind.u64.wrap (IntKind.u64.wrap c * 281474976710656) / 281474976710656 from rfl)
  go_enter Try.func21, Try.ntmps21
  go_wp2
  go_ret
  exact ⟨ret_bool (by rw [← H.out, H2.out]), rfl⟩

theorem udivisibleOK32_any (c : Int) (h0 : -2147483648 ≤ c) (h1 : c ≤ 2147483647) (w : World) :
    Calls Try.prog 22 #[.int .i32 c] w fun e w' => e = .returned (.bool (umOK 32 c)) ∧ w = w' := by
  have H := Lib.hid (umOK_eq isW32 c)
  have H2 := Lib.hid (show low 32 c = IntKind.u64.wrap (IntKind.u64.wrap c * 4294967296) / 4294967296 from rfl)
  go_enter Try.func22, Try.ntmps22
  go_wp2
  go_ret
  exact ⟨ret_bool (by rw [← H.out, H2.out]), rfl⟩

theorem udivisibleOK64_any (c : Int) (h0 : -9223372036854775808 ≤ c) (h1 : c ≤ 9223372036854775807) (w : World) :
    Calls Try.prog 23 #[.int .i64 c] w fun e w' => e = .returned (.bool (umOK 64 c)) ∧ w = w' := by
  have H := Lib.hid (umOK_eq isW64 c)
  have H2 := Lib.hid (show low 64 c = IntKind.u64.wrap (IntKind.u64.wrap c) by show IntKind.u64.wrap (IntKind.u64.wrap c * 1) / 1 = _; rw [Int.mul_one, Int.ediv_one])
  go_enter Try.func23, Try.ntmps23
  go_wp2
  go_ret
  exact ⟨ret_bool (by rw [← H.out, H2.out]), rfl⟩

theorem smagicOK8_any (c : Int) (h0 : -128 ≤ c) (h1 : c ≤ 127) (w : World) :
    Calls Try.prog 24 #[.int .i8 c] w fun e w' => e = .returned (.bool (smOK c)) ∧ w = w' := by
  by_cases h : c < 0
  · have H : Hid (smOK c = false) := by show smOK c = false; unfold smOK; simp [h]
    go_enter Try.func24, Try.ntmps24
    go_wp2
    go_ret
    exact ⟨ret_bool H.out.symm, rfl⟩
  · have h2 : 0 ≤ c := by omega
    have e : smOK c = (bits .and .i64 c (c - 1) != 0) := by rw [← IntWalk.wrap64_in (c - 1) ⟨by omega, by omega⟩, smOK_eq c h2 (by omega)]; unfold smOK; simp [h2]
    have H := Lib.hid e
    clear e h
    go_enter Try.func24, Try.ntmps24
    go_wp2
    go_ret
    exact ⟨ret_bool (by rw [H.out]), rfl⟩

theorem smagicOK16_any (c : Int) (h0 : -32768 ≤ c) (h1 : c ≤ 32767) (w : World) :
    Calls Try.prog 25 #[.int .i16 c] w fun e w' => e = .returned (.bool (smOK c)) ∧ w = w' := by
  by_cases h : c < 0
  · have H : Hid (smOK c = false) := by show smOK c = false; unfold smOK; simp [h]
    go_enter Try.func25, Try.ntmps25
    go_wp2
    go_ret
    exact ⟨ret_bool H.out.symm, rfl⟩
  · have h2 : 0 ≤ c := by omega
    have e : smOK c = (bits .and .i64 c (c - 1) != 0) := by rw [← IntWalk.wrap64_in (c - 1) ⟨by omega, by omega⟩, smOK_eq c h2 (by omega)]; unfold smOK; simp [h2]
    have H := Lib.hid e
    clear e h
    go_enter Try.func25, Try.ntmps25
    go_wp2
    go_ret
    exact ⟨ret_bool (by rw [H.out]), rfl⟩

theorem smagicOK32_any (c : Int) (h0 : -2147483648 ≤ c) (h1 : c ≤ 2147483647) (w : World) :
    Calls Try.prog 26 #[.int .i32 c] w fun e w' => e = .returned (.bool (smOK c)) ∧ w = w' := by
  by_cases h : c < 0
  · have H : Hid (smOK c = false) := by show smOK c = false; unfold smOK; simp [h]
    go_enter Try.func26, Try.ntmps26
    go_wp2
    go_ret
    exact ⟨ret_bool H.out.symm, rfl⟩
  · have h2 : 0 ≤ c := by omega
    have e : smOK c = (bits .and .i64 c (c - 1) != 0) := by rw [← IntWalk.wrap64_in (c - 1) ⟨by omega, by omega⟩, smOK_eq c h2 (by omega)]; unfold smOK; simp [h2]
    have H := Lib.hid e
    clear e h
    go_enter Try.func26, Try.ntmps26
    go_wp2
    go_ret
    exact ⟨ret_bool (by rw [H.out]), rfl⟩

theorem smagicOK64_any (c : Int) (h0 : -9223372036854775808 ≤ c) (h1 : c ≤ 9223372036854775807) (w : World) :
    Calls Try.prog 27 #[.int .i64 c] w fun e w' => e = .returned (.bool (smOK c)) ∧ w = w' := by
  by_cases h : c < 0
  · have H : Hid (smOK c = false) := by show smOK c = false; unfold smOK; simp [h]
    go_enter Try.func27, Try.ntmps27
    go_wp2
    go_ret
    exact ⟨ret_bool H.out.symm, rfl⟩
  · have h2 : 0 ≤ c := by omega
    have e : smOK c = (bits .and .i64 c (c - 1) != 0) := by rw [← IntWalk.wrap64_in (c - 1) ⟨by omega, by omega⟩, smOK_eq c h2 (by omega)]; unfold smOK; simp [h2]
    have H := Lib.hid e
    clear e h
    go_enter Try.func27, Try.ntmps27
    go_wp2
    go_ret
    exact ⟨ret_bool (by rw [H.out]), rfl⟩

theorem sdivisibleOK8_any (c : Int) (h0 : -128 ≤ c) (h1 : c ≤ 127) (w : World) :
    Calls Try.prog 28 #[.int .i8 c] w fun e w' => e = .returned (.bool (smOK c)) ∧ w = w' := by
  by_cases h : c < 0
  · have H : Hid (smOK c = false) := by show smOK c = false; unfold smOK; simp [h]
    go_enter Try.func28, Try.ntmps28
    go_wp2
    go_ret
    exact ⟨ret_bool H.out.symm, rfl⟩
  · have h2 : 0 ≤ c := by omega
    have e : smOK c = (bits .and .i64 c (c - 1) != 0) := by rw [← IntWalk.wrap64_in (c - 1) ⟨by omega, by omega⟩, smOK_eq c h2 (by omega)]; unfold smOK; simp [h2]
    have H := Lib.hid e
    clear e h
    go_enter Try.func28, Try.ntmps28
    go_wp2
    go_ret
    exact ⟨ret_bool (by rw [H.out]), rfl⟩

theorem sdivisibleOK16_any (c : Int) (h0 : -32768 ≤ c) (h1 : c ≤ 32767) (w : World) :
    Calls Try.prog 29 #[.int .i16 c] w fun e w' => e = .returned (.bool (smOK c)) ∧ w = w' := by
  by_cases h : c < 0
  · have H : Hid (smOK c = false) := by show smOK c = false; unfold smOK; simp [h]
    go_enter Try.func29, Try.ntmps29
    go_wp2
    go_ret
    exact ⟨ret_bool H.out.symm, rfl⟩
  · have h2 : 0 ≤ c := by omega
    have e : smOK c = (bits .and .i64 c (c - 1) != 0) := by rw [← IntWalk.wrap64_in (c - 1) ⟨by omega, by omega⟩, smOK_eq c h2 (by omega)]; unfold smOK; simp [h2]
    have H := Lib.hid e
    clear e h
    go_enter Try.func29, Try.ntmps29
    go_wp2
    go_ret
    exact ⟨ret_bool (by rw [H.out]), rfl⟩

theorem sdivisibleOK32_any (c : Int) (h0 : -2147483648 ≤ c) (h1 : c ≤ 2147483647) (w : World) :
    Calls Try.prog 30 #[.int .i32 c] w fun e w' => e = .returned (.bool (smOK c)) ∧ w = w' := by
  by_cases h : c < 0
  · have H : Hid (smOK c = false) := by show smOK c = false; unfold smOK; simp [h]
    go_enter Try.func30, Try.ntmps30
    go_wp2
    go_ret
    exact ⟨ret_bool H.out.symm, rfl⟩
  · have h2 : 0 ≤ c := by omega
    have e : smOK c = (bits .and .i64 c (c - 1) != 0) := by rw [← IntWalk.wrap64_in (c - 1) ⟨by omega, by omega⟩, smOK_eq c h2 (by omega)]; unfold smOK; simp [h2]
    have H := Lib.hid e
    clear e h
    go_enter Try.func30, Try.ntmps30
    go_wp2
    go_ret
    exact ⟨ret_bool (by rw [H.out]), rfl⟩

theorem sdivisibleOK64_any (c : Int) (h0 : -9223372036854775808 ≤ c) (h1 : c ≤ 9223372036854775807) (w : World) :
    Calls Try.prog 31 #[.int .i64 c] w fun e w' => e = .returned (.bool (smOK c)) ∧ w = w' := by
  by_cases h : c < 0
  · have H : Hid (smOK c = false) := by show smOK c = false; unfold smOK; simp [h]
    go_enter Try.func31, Try.ntmps31
    go_wp2
    go_ret
    exact ⟨ret_bool H.out.symm, rfl⟩
  · have h2 : 0 ≤ c := by omega
    have e : smOK c = (bits .and .i64 c (c - 1) != 0) := by rw [← IntWalk.wrap64_in (c - 1) ⟨by omega, by omega⟩, smOK_eq c h2 (by omega)]; unfold smOK; simp [h2]
    have H := Lib.hid e
    clear e h
    go_enter Try.func31, Try.ntmps31
    go_wp2
    go_ret
    exact ⟨ret_bool (by rw [H.out]), rfl⟩
end Go.Proofs.Ytdkcmpblfkgckaa
