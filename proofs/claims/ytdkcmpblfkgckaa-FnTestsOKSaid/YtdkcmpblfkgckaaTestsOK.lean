/-
  A test is turned only where c is not 0 and no power of two, with a sign greater than 0, and for every odd c from 3 on, for every width and every input.
-/
import Derived.Test.YtdkcmpblfkgckaaRows
import Derived.WalkKit
import Derived.ProofKit
import Derived.OpenShut
import Derived.Test.YtdkcmpblfkgckaaTests
namespace Go.Proofs.Ytdkcmpblfkgckaa.fnTestsOK
open Go.Dv Go.ChangeShapes Go.WideShapes Go.ChangeAt Go.RowKit
set_option linter.unusedVariables false      -- a walk need not use every 'w<i>' (that an integer argument fits its kind)

theorem own : ownKnob Try.prog.godebug = none := by kernel_rfl

/-! ### The walk -/
theorem walk (a0 : Int) (a1 : Int) (w0 : (Lit.int .u8 a0).wf = true) (w1 : (Lit.int .u64 a1).wf = true) (w : World) :
    Calls Try.prog 5 #[.int .u8 a0, .int .u64 a1] w fun e w' => e = .returned (.bool true) ∧ Grown w w' := by
  have b0 : 0 ≤ a0 ∧ a0 ≤ 255 := bounds_u8 w0
  have b1 : 0 ≤ a1 ∧ a1 ≤ 18446744073709551615 := bounds_u64 w1
  have hn : isW (wid a0) := isW_wid a0 b0.1 b0.2
  have hs := sgn_lt hn a1
  have T := tests_unsigned hn a1 b1.1 b1.2
  have U := tests_signed (sgn (wid a0) a1) (sgn_ge hn a1) hs
  rcases T with ⟨t1, t2, t3⟩ | ⟨t1, t2⟩ | ⟨t1, t2, t3⟩
  · rcases U with ⟨u1, u2, u3⟩ | ⟨u1, u2⟩ | ⟨u1, u2, u3⟩
    · exact tests_00 a0 a1 b0.1 b0.2 hn w hs t1 t2 t3 u1 u2 u3
    · exact tests_01 a0 a1 b0.1 b0.2 hn w hs t1 t2 t3 u1 u2
    · exact tests_02 a0 a1 b0.1 b0.2 hn w hs t1 t2 t3 u1 u2 u3
  · rcases U with ⟨u1, u2, u3⟩ | ⟨u1, u2⟩ | ⟨u1, u2, u3⟩
    · exact tests_10 a0 a1 b0.1 b0.2 hn w hs t1 t2 u1 u2 u3
    · exact tests_11 a0 a1 b0.1 b0.2 hn w hs t1 t2 u1 u2
    · exact tests_12 a0 a1 b0.1 b0.2 hn w hs t1 t2 u1 u2 u3
  · rcases U with ⟨u1, u2, u3⟩ | ⟨u1, u2⟩ | ⟨u1, u2, u3⟩
    · exact tests_20 a0 a1 b0.1 b0.2 hn w hs t1 t2 t3 u1 u2 u3
    · exact tests_21 a0 a1 b0.1 b0.2 hn w hs t1 t2 t3 u1 u2
    · exact tests_22 a0 a1 b0.1 b0.2 hn w hs t1 t2 t3 u1 u2 u3

/-! ### The row -/
set_option maxRecDepth 100000 in
theorem lifted (os : Os) (started : os.Started) (H : Type) (enc : TypeId × Value → H) :
    ReturnsInHanded {} Try.checked os 5 .any (Rows.fnTestsOKSpec.pre6 enc Try.prog Try.f5 Rows.fnTestsOKRow.domain false) (Rows.fnTestsOKSpec.post enc Try.prog Try.f5 false true false false) := by
  refine returnsInHanded_of_change (C := Try.checked) own started (by kernel_rfl) Try.func5
    (ChangeSpec.witness6 (enc := enc) (C := Try.checked) false ⟨#[], #[.int .u8 0, .int .u64 0], []⟩ 8 (by kernel_rfl) (by kernel_rfl) (by kernel_rfl) (by kernel_rfl)) ?_
  intro W base args ds gs before hval0 hW hcnd _
  have hval : ∀ (j : Nat) t v, Try.f5.params[j]? = some t → args[j]? = some v → Value.okWide Try.prog W .any base t v := hval0
  have hW' := hW
  obtain ⟨p, q, hA0, hV, rfl, hfz, hnd⟩ := hW
  have hA : DataW.TrodAll enc Try.prog W 0 (fun _ => true) true Try.f5.params.toList args.toList ds p := hA0
  rw [Try.params5] at hA hval
  obtain ⟨v0, vs0, d0, ds0, p0, q0, hargs, rfl, rfl, h0, r0⟩ := trodAll_cons hA
  obtain ⟨v1, vs1, d1, ds1, p1, q1, rfl, rfl, rfl, h1, r1⟩ := trodAll_cons r0
  obtain ⟨rfl, rfl, rfl⟩ := trodAll_nil r1
  obtain rfl : args = #[v0, v1] := by cases args; simp_all
  obtain ⟨rfl, rfl⟩ := trodVars_none hV
  obtain ⟨a0, rfl, rfl, rfl, w0⟩ := open_int Try.underlying5 (hval 0 5 v0 rfl rfl) h0
  obtain ⟨a1, rfl, rfl, rfl, w1⟩ := open_int Try.underlying22 (hval 1 22 v1 rfl rfl) h1
  clear hA0 hval0
  simp only [List.append_nil] at hW'
  refine (walk a0 a1 w0 w1 W).mono fun e W' ⟨he, hg⟩ => ?_
  subst he
  exact ⟨_, rfl, post_of_same (pa := []) (pv := []) hW' (fun _ _ _ => (trodAll_cons_mk (shut_bool Try.underlying4 _) trodAll_mk0)) (fun sp _ => (trodAll_cons_mk (shut_int Try.underlying5 w0) (trodAll_cons_mk (shut_int Try.underlying22 w1) trodAll_mk0))) (fun _ _ => rfl) rfl
    (hg.frame _) hg.2.1 (ok_one (by kernel_rfl) rfl (okWide_bool_mk Try.underlying4 _))⟩

theorem over : Rows.fnTestsOKRow.holds Try.pinned (OpenSpec.ofChange Rows.fnTestsOKSpec) :=
  OpenClaim.holds_of_wide 5 Try.f5 rfl rfl rfl rfl rfl rfl rfl ⟨rfl, rfl, rfl, rfl, rfl⟩ rfl rfl rfl rfl rfl (by kernel_rfl) Try.func5 (by kernel_rfl)
    (of_decide_eq_true (by kernel_rfl)) (by unfold Func.isWrapper; first | (rw [if_pos (by decide +kernel)]; kernel_rfl) | (rw [if_neg (by decide +kernel)]; exact ⟨rfl, rfl⟩))
    (fun os started H enc _ => lifted os started H enc)

/-- The statement -/
theorem proved : Rows.FnTestsOKSaid :=
  over
#print axioms proved
end Go.Proofs.Ytdkcmpblfkgckaa.fnTestsOK
