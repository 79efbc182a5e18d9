/-
  No cell of these rows narrows 'for every input' (looked for: loops, veiled, ifaces, maps, wideKeys, modest, calm, conditions, laid).
  DERIVED. THE GIVEN ROWS OF THIS SEAT. 5 by the template 'for every input the law returns true; each argument reads behind the call as it read before'; 0 by the template 'total and deterministic' (their statements: YtdkcmpblfkgckaaTotals.lean).
  GIVEN WITH THE SEED: the statements are not yours to turn. If you find one false, say at which input.
  Laid BY PROGRAM, IN A SANDBOX (cutbox-rows.mjs): the forced cells as the released guide's own fill.sh prints them over the translation c94e69c312a1db49… (all of the seat's roots in one cut). By AI agents, Wed Nov 11 2026. No macro, syntax, notation, axiom, sorry.
-/
import Derived.Test.YtdkcmpblfkgckaaChecked
import GoSem.Claim
import GoSem.ClaimJoined
import GoSem.ClaimMapViews
import Derived.JoinedTies
import Derived.KernelRfl
namespace Go.Proofs.Ytdkcmpblfkgckaa
/- THE CELL 'sum', in the pinned program and in every row, IS THE sha256 OF THE DUMP (.gsa) THAT YtdkcmpblfkgckaaProg.lean LOADS. Nothing in Lean hashes anything: it is a label: what it is worth is what the hold of that sum in a sandbox is worth. -/
noncomputable def Try.pinned : Pinned := { name := "ytdkcmpblfkgckaa", sum := "c94e69c312a1db4956fda49a522ae43c1afa7f297e0769388757b526a88bdc0e", checked := Try.checked }
namespace Rows
def none {H : Type} : Left H := { results := [], args := [] }

/-- 'laws.FnUnsignedOK': WHATEVER THE INPUT: true; the input reads as it did. -/
def fnUnsignedOKSpec : ChangeSpec := { name := "fnUnsignedOK", fn := fun _ => fun
  | [d1, d2] => { results := [.lit (.bool true)], args := [d1, d2] }
  | _ => none }
def fnUnsignedOKRow : OpenClaim := { program := "ytdkcmpblfkgckaa", sum := "c94e69c312a1db4956fda49a522ae43c1afa7f297e0769388757b526a88bdc0e", func := "loop.example/pub-divisionbyconstants/laws.FnUnsignedOK", spec := "fnUnsignedOK", apart := false }
def FnUnsignedOKSaid : Prop := fnUnsignedOKRow.holds Try.pinned (OpenSpec.ofChange fnUnsignedOKSpec)

/-- ITS FALSE NEIGHBOUR: 'it returns false'. Refute it at one input. -/
def fnUnsignedOKWrong : ChangeSpec := { name := "fnUnsignedOK", fn := fun _ => fun
  | [d1, d2] => { results := [.lit (.bool false)], args := [d1, d2] }
  | _ => none }
def FnUnsignedOKWrongFalsely : Prop := fnUnsignedOKRow.holds Try.pinned (OpenSpec.ofChange fnUnsignedOKWrong)

/-- 'laws.FnSignedOK': WHATEVER THE INPUT: true; the input reads as it did. -/
def fnSignedOKSpec : ChangeSpec := { name := "fnSignedOK", fn := fun _ => fun
  | [d1, d2] => { results := [.lit (.bool true)], args := [d1, d2] }
  | _ => none }
def fnSignedOKRow : OpenClaim := { program := "ytdkcmpblfkgckaa", sum := "c94e69c312a1db4956fda49a522ae43c1afa7f297e0769388757b526a88bdc0e", func := "loop.example/pub-divisionbyconstants/laws.FnSignedOK", spec := "fnSignedOK", apart := false }
def FnSignedOKSaid : Prop := fnSignedOKRow.holds Try.pinned (OpenSpec.ofChange fnSignedOKSpec)

/-- ITS FALSE NEIGHBOUR: 'it returns false'. Refute it at one input. -/
def fnSignedOKWrong : ChangeSpec := { name := "fnSignedOK", fn := fun _ => fun
  | [d1, d2] => { results := [.lit (.bool false)], args := [d1, d2] }
  | _ => none }
def FnSignedOKWrongFalsely : Prop := fnSignedOKRow.holds Try.pinned (OpenSpec.ofChange fnSignedOKWrong)

/-- 'laws.FnTestsOK': WHATEVER THE INPUT: true; the input reads as it did. -/
def fnTestsOKSpec : ChangeSpec := { name := "fnTestsOK", fn := fun _ => fun
  | [d1, d2] => { results := [.lit (.bool true)], args := [d1, d2] }
  | _ => none }
def fnTestsOKRow : OpenClaim := { program := "ytdkcmpblfkgckaa", sum := "c94e69c312a1db4956fda49a522ae43c1afa7f297e0769388757b526a88bdc0e", func := "loop.example/pub-divisionbyconstants/laws.FnTestsOK", spec := "fnTestsOK", apart := false }
def FnTestsOKSaid : Prop := fnTestsOKRow.holds Try.pinned (OpenSpec.ofChange fnTestsOKSpec)

/-- ITS FALSE NEIGHBOUR: 'it returns false'. Refute it at one input. -/
def fnTestsOKWrong : ChangeSpec := { name := "fnTestsOK", fn := fun _ => fun
  | [d1, d2] => { results := [.lit (.bool false)], args := [d1, d2] }
  | _ => none }
def FnTestsOKWrongFalsely : Prop := fnTestsOKRow.holds Try.pinned (OpenSpec.ofChange fnTestsOKWrong)

/-- 'laws.FnTypedUnsigned': WHATEVER THE INPUT: true; the input reads as it did. -/
def fnTypedUnsignedSpec : ChangeSpec := { name := "fnTypedUnsigned", fn := fun _ => fun
  | [d] => { results := [.lit (.bool true)], args := [d] }
  | _ => none }
def fnTypedUnsignedRow : OpenClaim := { program := "ytdkcmpblfkgckaa", sum := "c94e69c312a1db4956fda49a522ae43c1afa7f297e0769388757b526a88bdc0e", func := "loop.example/pub-divisionbyconstants/laws.FnTypedUnsigned", spec := "fnTypedUnsigned", apart := false }
def FnTypedUnsignedSaid : Prop := fnTypedUnsignedRow.holds Try.pinned (OpenSpec.ofChange fnTypedUnsignedSpec)

/-- ITS FALSE NEIGHBOUR: 'it returns false'. Refute it at one input. -/
def fnTypedUnsignedWrong : ChangeSpec := { name := "fnTypedUnsigned", fn := fun _ => fun
  | [d] => { results := [.lit (.bool false)], args := [d] }
  | _ => none }
def FnTypedUnsignedWrongFalsely : Prop := fnTypedUnsignedRow.holds Try.pinned (OpenSpec.ofChange fnTypedUnsignedWrong)

/-- 'laws.FnTypedSigned': WHATEVER THE INPUT: true; the input reads as it did. -/
def fnTypedSignedSpec : ChangeSpec := { name := "fnTypedSigned", fn := fun _ => fun
  | [d] => { results := [.lit (.bool true)], args := [d] }
  | _ => none }
def fnTypedSignedRow : OpenClaim := { program := "ytdkcmpblfkgckaa", sum := "c94e69c312a1db4956fda49a522ae43c1afa7f297e0769388757b526a88bdc0e", func := "loop.example/pub-divisionbyconstants/laws.FnTypedSigned", spec := "fnTypedSigned", apart := false }
def FnTypedSignedSaid : Prop := fnTypedSignedRow.holds Try.pinned (OpenSpec.ofChange fnTypedSignedSpec)

/-- ITS FALSE NEIGHBOUR: 'it returns false'. Refute it at one input. -/
def fnTypedSignedWrong : ChangeSpec := { name := "fnTypedSigned", fn := fun _ => fun
  | [d] => { results := [.lit (.bool false)], args := [d] }
  | _ => none }
def FnTypedSignedWrongFalsely : Prop := fnTypedSignedRow.holds Try.pinned (OpenSpec.ofChange fnTypedSignedWrong)

/- THE SECOND FORM. 'bulk': how many values and letters a reading holds, each counted each time it is reached (what is shared counts as often as it is met; a slice's spare places count too). A statement '..UptoSaid' is the law's where the arguments, and the package variables that the reading takes, are together of bulk at most 1048576: NARROWER than '..Said'. Prove '..Said' where nothing that the law and all that it calls make is longer than what came in: it says more and counts as full. Else prove '..UptoSaid'. A law counts once. -/
mutual
def uptoBulk {H : Type} : DataW H → Nat
  | .lit (.string bytes) => bytes.length + 1
  | .lit _ => 1
  | .nil => 1
  | .ptr d => uptoBulk d + 1
  | .slice elems spare => uptoBulkAll elems + uptoBulkAll spare + 1
  | .agg parts => uptoBulkAll parts + 1
  | .iface _ d => uptoBulk d + 1
  | .map entries => uptoBulkEntries entries + 1
  | .held _ => 1
def uptoBulkAll {H : Type} : List (DataW H) → Nat
  | [] => 0
  | d :: r => uptoBulk d + uptoBulkAll r
def uptoBulkEntries {H : Type} : List (Lit × DataW H) → Nat
  | [] => 0
  | x :: r => uptoBulkEntry x + uptoBulkEntries r
def uptoBulkEntry {H : Type} : Lit × DataW H → Nat
  | (.string bytes, d) => bytes.length + uptoBulk d + 1
  | (_, d) => uptoBulk d + 1
 end
def uptoSmall : (H : Type) → List (DataW H) → Bool := fun _ ds => decide (uptoBulkAll ds ≤ 1048576)
def OpenSpec.upto (s : _root_.Go.ChangeSpec) : _root_.Go.OpenSpec := { _root_.Go.OpenSpec.ofChange s with cond := some uptoSmall }

/-- 'laws.FnUnsignedOK', WHERE WHAT IT READS IS OF BULK AT MOST 1048576: true; the input reads as it did. -/
def fnUnsignedOKUptoRow : OpenClaim := { program := "ytdkcmpblfkgckaa", sum := "c94e69c312a1db4956fda49a522ae43c1afa7f297e0769388757b526a88bdc0e", func := "loop.example/pub-divisionbyconstants/laws.FnUnsignedOK", spec := "fnUnsignedOK", apart := false, narrowed := true }
def FnUnsignedOKUptoSaid : Prop := fnUnsignedOKUptoRow.holds Try.pinned (OpenSpec.upto fnUnsignedOKSpec)

/-- 'laws.FnSignedOK', WHERE WHAT IT READS IS OF BULK AT MOST 1048576: true; the input reads as it did. -/
def fnSignedOKUptoRow : OpenClaim := { program := "ytdkcmpblfkgckaa", sum := "c94e69c312a1db4956fda49a522ae43c1afa7f297e0769388757b526a88bdc0e", func := "loop.example/pub-divisionbyconstants/laws.FnSignedOK", spec := "fnSignedOK", apart := false, narrowed := true }
def FnSignedOKUptoSaid : Prop := fnSignedOKUptoRow.holds Try.pinned (OpenSpec.upto fnSignedOKSpec)

/-- 'laws.FnTestsOK', WHERE WHAT IT READS IS OF BULK AT MOST 1048576: true; the input reads as it did. -/
def fnTestsOKUptoRow : OpenClaim := { program := "ytdkcmpblfkgckaa", sum := "c94e69c312a1db4956fda49a522ae43c1afa7f297e0769388757b526a88bdc0e", func := "loop.example/pub-divisionbyconstants/laws.FnTestsOK", spec := "fnTestsOK", apart := false, narrowed := true }
def FnTestsOKUptoSaid : Prop := fnTestsOKUptoRow.holds Try.pinned (OpenSpec.upto fnTestsOKSpec)

/-- 'laws.FnTypedUnsigned', WHERE WHAT IT READS IS OF BULK AT MOST 1048576: true; the input reads as it did. -/
def fnTypedUnsignedUptoRow : OpenClaim := { program := "ytdkcmpblfkgckaa", sum := "c94e69c312a1db4956fda49a522ae43c1afa7f297e0769388757b526a88bdc0e", func := "loop.example/pub-divisionbyconstants/laws.FnTypedUnsigned", spec := "fnTypedUnsigned", apart := false, narrowed := true }
def FnTypedUnsignedUptoSaid : Prop := fnTypedUnsignedUptoRow.holds Try.pinned (OpenSpec.upto fnTypedUnsignedSpec)

/-- 'laws.FnTypedSigned', WHERE WHAT IT READS IS OF BULK AT MOST 1048576: true; the input reads as it did. -/
def fnTypedSignedUptoRow : OpenClaim := { program := "ytdkcmpblfkgckaa", sum := "c94e69c312a1db4956fda49a522ae43c1afa7f297e0769388757b526a88bdc0e", func := "loop.example/pub-divisionbyconstants/laws.FnTypedSigned", spec := "fnTypedSigned", apart := false, narrowed := true }
def FnTypedSignedUptoSaid : Prop := fnTypedSignedUptoRow.holds Try.pinned (OpenSpec.upto fnTypedSignedSpec)

end Rows
end Go.Proofs.Ytdkcmpblfkgckaa
