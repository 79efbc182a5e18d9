/-
  Proved: quotients and tests of 64 bits are those of Go's own operators, at every input; the five listed package-level variables are as their initialisers lay them.
-/
import Derived.Test.YtjejffijhlppmaaGreatDoorCards
import Derived.Test.YtjejffijhlppmaaGreatDoorTie
import Derived.Test.YtjejffijhlppmaaGreatDoorLGo
import Derived.ProofKit
import Derived.OpenShut
import Derived.Deep.DeepHandedRow
import Derived.Lib.LaidTab
import Derived.OpenVars
import Derived.Test.YtjejffijhlppmaaGreatDoorFa
namespace Go.Proofs.YtjejffijhlppmaaGreatDoor.fnGo
open Go.Dv Go.ChangeShapes Go.WideShapes Go.ChangeAt Go.RowKit
set_option linter.unusedVariables false

theorem own : ownKnob Tryz.prog.godebug = none := by kernel_rfl
theorem laidOut : laidOutB Tryz.prog = true := by kernel_rfl
theorem vars_len {H : Type} {enc : TypeId × Value → H} {P : Program} {w : World} {spare : Nat → Bool} : ∀ {ns : List String} {gs : List (DataW H)} {ps : List MemPlace}, DataW.TrodVars enc P w spare ns gs ps → gs.length = ns.length
  | [], [], _, _ => rfl
  | [], _ :: _, _, h => h.elim
  | _ :: _, [], _, h => h.elim
  | _ :: ns, _ :: gs, _, h => by
    obtain ⟨g, t, cs, fuel, p, q, h1, h2, h3, h4, hs, e⟩ := h
    simp [vars_len hs]
theorem four {H : Type} {gs : List (DataW H)} (h : gs.length = 4) : ∃ a b c d, gs = [a, b, c, d] := by
  match gs, h with
  | [a, b, c, d], _ => exact ⟨a, b, c, d, rfl⟩
theorem gTab : Tryz.prog.globalNamed "math/bits.deBruijn64tab" = some 0 := by kernel_rfl
theorem gTabType : (Tryz.prog.globals[0]?).map (·.type) = some 100 := by kernel_rfl
theorem cellsTab : Tryz.prog.cellsOf 100 = 64 := by kernel_rfl
theorem cellsByte : Tryz.prog.cellsOf 5 = 1 := by kernel_rfl

/-- What the row's list gives: the table's cells hold its numbers. -/
theorem table {W : World} (h : laidMetH Tryz.prog Rows.fnGoRow.laid W) : Lib.TabIs Tryz.prog W "math/bits.deBruijn64tab" .u8 [0, 1, 56, 2, 57, 49, 28, 3, 61, 58, 42, 50, 38, 29, 17, 4, 62, 47, 59, 36, 45, 43, 51, 22, 53, 39, 33, 30, 24, 18, 12, 5, 63, 55, 48, 27, 60, 41, 37, 16, 46, 35, 44, 21, 52, 32, 23, 11, 54, 26, 40, 15, 34, 20, 31, 10, 25, 14, 19, 9, 13, 8, 7, 6] :=
  Lib.tabIs_of_head (rest := _) gTab gTabType Tryz.underlying100 Tryz.underlying5 cellsByte cellsTab h
theorem tab_eq (j : Nat) (hj : j < 64) : ([0, 1, 56, 2, 57, 49, 28, 3, 61, 58, 42, 50, 38, 29, 17, 4, 62, 47, 59, 36, 45, 43, 51, 22, 53, 39, 33, 30, 24, 18, 12, 5, 63, 55, 48, 27, 60, 41, 37, 16, 46, 35, 44, 21, 52, 32, 23, 11, 54, 26, 40, 15, 34, 20, 31, 10, 25, 14, 19, 9, 13, 8, 7, 6] : List Int).getD j 0 = ((Lib.deBruijn64tab.getD j 0 : Nat) : Int) := by
  have all : ∀ i : Fin 64, ([0, 1, 56, 2, 57, 49, 28, 3, 61, 58, 42, 50, 38, 29, 17, 4, 62, 47, 59, 36, 45, 43, 51, 22, 53, 39, 33, 30, 24, 18, 12, 5, 63, 55, 48, 27, 60, 41, 37, 16, 46, 35, 44, 21, 52, 32, 23, 11, 54, 26, 40, 15, 34, 20, 31, 10, 25, 14, 19, 9, 13, 8, 7, 6] : List Int).getD i.val 0 = ((Lib.deBruijn64tab.getD i.val 0 : Nat) : Int) := by decide
  exact all ⟨j, hj⟩
theorem tabbed {W : World} (h : laidMetH Tryz.prog Rows.fnGoRow.laid W) : Tab W :=
  tab_of_cells fun j hj => by
    have c := (table h).cell gTab j hj
    rw [tab_eq j hj] at c
    exact c

set_option maxRecDepth 100000 in
theorem contract (H : Type) (enc : TypeId × Value → H) (W : World) (base : Nat) (args : Array Value) (ds gs : List (DataW H)) (before : List MemPlace)
    (hval : ∀ (j : Nat) t v, Tryz.f4.params[j]? = some t → args[j]? = some v → Value.okWide Tryz.prog W .any base t v)
    (hW : DataW.Whole enc Tryz.prog Tryz.f4.params.toList Rows.fnGoSpec.vars false W args.toList ds gs before) (hL : laidMetH Tryz.prog Rows.fnGoRow.laid W) :
    Calls Tryz.prog 4 args W fun e W' => ∃ v, e = .returned v ∧ Rows.fnGoSpec.post enc Tryz.prog Tryz.f4 false true false false W args v W' := by
  have hW' := hW
  obtain ⟨p, q, hA0, hV, rfl, hfz, hnd⟩ := hW
  have hA : DataW.TrodAll enc Tryz.prog W 0 (fun _ => true) true Tryz.f4.params.toList args.toList ds p := hA0
  rw [Tryz.params4] at hA hval
  obtain ⟨v0, vs0, d0, ds0, p0, q0, hargs, rfl, rfl, h0, r0⟩ := trodAll_cons hA
  obtain ⟨v1, vs1, d1, ds1, p1, q1, rfl, rfl, rfl, h1, r1⟩ := trodAll_cons r0
  obtain ⟨v2, vs2, d2, ds2, p2, q2, rfl, rfl, rfl, h2, r2⟩ := trodAll_cons r1
  obtain ⟨rfl, rfl, rfl⟩ := trodAll_nil r2
  obtain rfl : args = #[v0, v1, v2] := by cases args; simp_all
  obtain ⟨g0, g1, g2, g3, rfl⟩ := four (vars_len hV)
  obtain ⟨a0, rfl, rfl, rfl, w0⟩ := open_int Tryz.underlying2 (hval 0 2 v0 rfl rfl) h0
  obtain ⟨a1, rfl, rfl, rfl, w1⟩ := open_int Tryz.underlying2 (hval 1 2 v1 rfl rfl) h1
  obtain ⟨a2, rfl, rfl, rfl, w2⟩ := open_int Tryz.underlying22 (hval 2 22 v2 rfl rfl) h2
  clear hA0
  try simp only [List.append_nil] at hW'
  refine (fnGo_walk a0 a1 a2 w0 w1 w2 W (tabbed hL)).mono fun e W' ⟨he, hb⟩ => ?_
  subst he
  exact ⟨_, rfl, _, _, _, [], [], q, hW', (trodAll_cons_mk (shut_bool Tryz.underlying4 _) trodAll_mk0), (trodAll_cons_mk (shut_int Tryz.underlying2 w0) (trodAll_cons_mk (shut_int Tryz.underlying2 w1) (trodAll_cons_mk (shut_int Tryz.underlying22 w2) trodAll_mk0))), hb.trodVars laidOut (by kernel_rfl) hV, hb.frame _, fun h => by cases h⟩

/-- A variable's cells laid. -/
def lay (h : Array Obj) (i : Nat) (cs : Array Value) : Array Obj := h.modify i fun
  | .cells _ t frozen => .cells cs t frozen
  | o => o
noncomputable def laidWorld (os : Os) : World :=
  { World.holding Tryz.prog os ⟨#[], #[], []⟩ with heap := lay (lay (lay (lay (lay ((World.holding Tryz.prog os ⟨#[], #[], []⟩).heap) 0 #[.int .u8 0, .int .u8 1, .int .u8 56, .int .u8 2, .int .u8 57, .int .u8 49, .int .u8 28, .int .u8 3, .int .u8 61, .int .u8 58, .int .u8 42, .int .u8 50, .int .u8 38, .int .u8 29, .int .u8 17, .int .u8 4, .int .u8 62, .int .u8 47, .int .u8 59, .int .u8 36, .int .u8 45, .int .u8 43, .int .u8 51, .int .u8 22, .int .u8 53, .int .u8 39, .int .u8 33, .int .u8 30, .int .u8 24, .int .u8 18, .int .u8 12, .int .u8 5, .int .u8 63, .int .u8 55, .int .u8 48, .int .u8 27, .int .u8 60, .int .u8 41, .int .u8 37, .int .u8 16, .int .u8 46, .int .u8 35, .int .u8 44, .int .u8 21, .int .u8 52, .int .u8 32, .int .u8 23, .int .u8 11, .int .u8 54, .int .u8 26, .int .u8 40, .int .u8 15, .int .u8 34, .int .u8 20, .int .u8 31, .int .u8 10, .int .u8 25, .int .u8 14, .int .u8 19, .int .u8 9, .int .u8 13, .int .u8 8, .int .u8 7, .int .u8 6]) 1 #[.int .i64 40]) 2 #[.int .i64 40]) 3 #[.int .i64 12]) 4 #[.int .i64 80] }
theorem laid_met (os : Os) : laidMet Tryz.prog Rows.fnGoRow.laid ((laidWorld os).forCall (fun _ _ => 0) ⟨#[], #[.int .i64 0, .int .i64 0, .int .u64 0], []⟩).memory :=
  laidMet_of_run' 8 (by kernel_rfl) (by kernel_rfl)
theorem reads (os : Os) {H : Type} (enc : TypeId × Value → H) : ∃ places, DataW.whole enc Tryz.prog ((laidWorld os).forCall (fun _ _ => 0) ⟨#[], #[.int .i64 0, .int .i64 0, .int .u64 0], []⟩).memory Tryz.f4.params.toList Rows.fnGoSpec.vars false (#[.int .i64 0, .int .i64 0, .int .u64 0] : Array Value).toList 8 = some ([.lit (.int .i64 0), .lit (.int .i64 0), .lit (.int .u64 0)], [.lit (.int .i64 40), .lit (.int .i64 40), .lit (.int .i64 12), .lit (.int .i64 80)], places) :=
  ⟨MemPlace.row ⟨1, 0, none⟩ 1 ++ [] ++ (MemPlace.row ⟨2, 0, none⟩ 1 ++ [] ++ (MemPlace.row ⟨3, 0, none⟩ 1 ++ [] ++ (MemPlace.row ⟨4, 0, none⟩ 1 ++ [] ++ []))), by kernel_rfl⟩

set_option maxRecDepth 100000 in
theorem lifted (os : Os) (started : os.Started) (H : Type) (enc : TypeId × Value → H) (F : Stop.Interp) :
    ReturnsInHanded {} Tryz.checked os 4 .any ((OpenSpec.ofChange Rows.fnGoSpec).preRow enc Tryz.prog Tryz.f4 Rows.fnGoRow.domain false Rows.fnGoRow.laid) (((OpenSpec.ofChange Rows.fnGoSpec).at F).post enc Tryz.prog Tryz.f4 false true false false) := by
  obtain ⟨places, hx⟩ := reads os enc
  refine returnsInHanded_of_row (C := Tryz.checked) (s := OpenSpec.ofChange Rows.fnGoSpec) own started (by kernel_rfl) Tryz.func4
    (witness_row_at (enc := enc) (C := Tryz.checked) false (laidWorld os) #[.int .i64 0, .int .i64 0, .int .u64 0] rfl (by kernel_rfl) (by kernel_rfl) (by kernel_rfl)
      (OpenSpec.preRow_of_cond 8 hx (by kernel_rfl) (fun k hk => by cases hk) (by kernel_rfl) (laid_met os))) ?_
  intro W base args ds gs before hval hW _ _ _ hL _ _
  exact contract H enc W base args ds gs before hval hW hL

theorem named : Tryz.prog.funcNamed "loop.example/pub-divisionbyconstants/laws.FnGo" = some 4 := by kernel_rfl
set_option maxHeartbeats 4000000 in
theorem closed : joinedFacts Tryz.prog 4 Tryz.f4 (OpenSpec.ofChange Rows.fnGoSpec).bare Rows.fnGoRow = true := by
  unfold joinedFacts
  repeat' (with_reducible refine and_mk ?_ ?_)
  all_goals (first | (with_reducible exact headEnter) | (with_reducible refine headLiftsB _ ?_; kernel_rfl) | (with_reducible refine headMakeB _ ?_; kernel_rfl) | (as_aux_lemma => kernel_rfl))

theorem said : Rows.FnGoSaid :=
  OpenClaim.holds_of_cond 4 Tryz.f4 rfl rfl rfl rfl rfl rfl rfl ⟨rfl, rfl, rfl, rfl, rfl⟩ rfl rfl rfl rfl rfl named Tryz.func4 closed
    (of_decide_eq_true (by kernel_rfl)) (by unfold Func.isWrapper; first | (rw [if_pos (by decide +kernel)]; kernel_rfl) | (rw [if_neg (by decide +kernel)]; exact ⟨rfl, rfl⟩))
    (fun os started H enc _ F => by rw [OpenClaim.pre_eq_preRow]; exact lifted os started H enc F)

/-- No parameter wants a stand-in; the program's own looks are off. -/
theorem plain (f : FuncId) (fn : Func) (hf : Tryz.pinned.checked.prog.funcNamed "loop.example/pub-divisionbyconstants/laws.FnGo" = some f) (hfn : Tryz.pinned.checked.prog.funcs[f]? = some fn) :
    false = Tryz.pinned.checked.prog.looks [] ∧ ∀ (j : Nat) t, fn.params[j]? = some t → Tryz.pinned.checked.prog.wantsStandIn t = false := by
  obtain rfl : f = 4 := Option.some.inj ((show Tryz.prog.funcNamed "loop.example/pub-divisionbyconstants/laws.FnGo" = some 4 by kernel_rfl).symm.trans hf) |>.symm
  obtain rfl : fn = Tryz.f4 := (Option.some.inj (Tryz.func4.symm.trans hfn)).symm
  refine ⟨by kernel_rfl, fun j t ht => ?_⟩
  rw [Tryz.params4] at ht
  have hm := Array.mem_of_getElem? ht
  have ht2 : t = 2 ∨ t = 2 ∨ t = 22 := by simpa using hm
  rcases ht2 with rfl | rfl | rfl
  · exact (show Tryz.prog.wantsStandIn 2 = false by kernel_rfl)
  · exact (show Tryz.prog.wantsStandIn 2 = false by kernel_rfl)
  · exact (show Tryz.prog.wantsStandIn 22 = false by kernel_rfl)

/-- The card -/
theorem card : Rows.FnGoCardSaid :=
  Claim7.holds_tied_plain_at .later [] _ _ _ _ said (fun _ h => by cases h) (by kernel_rfl) (fun _ h => by cases h) fnGo_row_tie rfl ⟨rfl, rfl⟩ headMain rfl plain (by kernel_rfl)
#print axioms card
end Go.Proofs.YtjejffijhlppmaaGreatDoor.fnGo
