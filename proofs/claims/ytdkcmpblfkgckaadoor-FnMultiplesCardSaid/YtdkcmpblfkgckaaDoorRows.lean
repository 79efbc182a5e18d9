/-
  NARROWER THAN 'FOR EVERY INPUT', by the rows' own cells (each row's printed sentence says how): FnDoubled: laid · FnMultiples: laid · FnSignedDivides: laid · FnSignedTest: laid · FnUnsignedDivides: laid · FnUnsignedTest: laid.
  DERIVED. THE GIVEN ROWS OF THIS SEAT. 6 by the template 'for every input the law returns true; each argument reads behind the call as it read before'; 0 by the template 'total and deterministic' (their statements: YtdkcmpblfkgckaaDoorTotals.lean).
  GIVEN WITH THE SEED: the statements are not yours to turn. If you find one false, say at which input.
  Laid BY PROGRAM, IN A SANDBOX (cutbox-rows.mjs): the forced cells as the released guide's own fill.sh prints them over the translation cbb641ca27586d0b… (all of the seat's roots in one cut). By AI agents, Wed Nov 11 2026. No macro, syntax, notation, axiom, sorry.
-/
import Derived.Test.YtdkcmpblfkgckaaDoorChecked
import GoSem.Claim
import GoSem.ClaimJoined
import GoSem.ClaimMapViews
import Derived.JoinedTies
import Derived.KernelRfl
namespace Go.Proofs.YtdkcmpblfkgckaaDoor
/- THE CELL 'sum', in the pinned program and in every row, IS THE sha256 OF THE DUMP (.gsa) THAT YtdkcmpblfkgckaaDoorProg.lean LOADS. Nothing in Lean hashes anything: it is a label: what it is worth is what the hold of that sum in a sandbox is worth. -/
noncomputable def Tryd.pinned : Pinned := { name := "ytdkcmpblfkgckaadoor", sum := "cbb641ca27586d0bb4015f7493cb0528dda37f4886bad73275ec7830ff0e8e78", checked := Tryd.checked }
namespace Rows
def none {H : Type} : Left H := { results := [], args := [] }

/- WHAT THE LISTED PACKAGE-LEVEL VARIABLES READ AS WHEN THE CALL BEGINS. Each datum BY PROGRAM (the guide's laid-datum.mjs) off the statement by which the dump's own 'gosem.cut.vars' lays the variable. In a bare row this is a premise. The card (YtdkcmpblfkgckaaDoorCards.lean) ties it to the program's text. -/
def laid_math_bits_deBruijn64tab {H : Type} : DataW H := .agg [.lit (.int .u8 0), .lit (.int .u8 1), .lit (.int .u8 56), .lit (.int .u8 2), .lit (.int .u8 57), .lit (.int .u8 49), .lit (.int .u8 28), .lit (.int .u8 3), .lit (.int .u8 61), .lit (.int .u8 58), .lit (.int .u8 42), .lit (.int .u8 50), .lit (.int .u8 38), .lit (.int .u8 29), .lit (.int .u8 17), .lit (.int .u8 4), .lit (.int .u8 62), .lit (.int .u8 47), .lit (.int .u8 59), .lit (.int .u8 36), .lit (.int .u8 45), .lit (.int .u8 43), .lit (.int .u8 51), .lit (.int .u8 22), .lit (.int .u8 53), .lit (.int .u8 39), .lit (.int .u8 33), .lit (.int .u8 30), .lit (.int .u8 24), .lit (.int .u8 18), .lit (.int .u8 12), .lit (.int .u8 5), .lit (.int .u8 63), .lit (.int .u8 55), .lit (.int .u8 48), .lit (.int .u8 27), .lit (.int .u8 60), .lit (.int .u8 41), .lit (.int .u8 37), .lit (.int .u8 16), .lit (.int .u8 46), .lit (.int .u8 35), .lit (.int .u8 44), .lit (.int .u8 21), .lit (.int .u8 52), .lit (.int .u8 32), .lit (.int .u8 23), .lit (.int .u8 11), .lit (.int .u8 54), .lit (.int .u8 26), .lit (.int .u8 40), .lit (.int .u8 15), .lit (.int .u8 34), .lit (.int .u8 20), .lit (.int .u8 31), .lit (.int .u8 10), .lit (.int .u8 25), .lit (.int .u8 14), .lit (.int .u8 19), .lit (.int .u8 9), .lit (.int .u8 13), .lit (.int .u8 8), .lit (.int .u8 7), .lit (.int .u8 6)]

/-- 'laws.FnDoubled': WHATEVER THE INPUT: true; the input reads as it did. -/
def fnDoubledSpec : ChangeSpec := { name := "fnDoubled", fn := fun _ => fun
  | [d1, d2, d3] => { results := [.lit (.bool true)], args := [d1, d2, d3] }
  | _ => none }
def fnDoubledRow : OpenClaim := { program := "ytdkcmpblfkgckaadoor", sum := "cbb641ca27586d0bb4015f7493cb0528dda37f4886bad73275ec7830ff0e8e78", func := "loop.example/pub-divisionbyconstants/laws.FnDoubled", spec := "fnDoubled", named := ["math/bits.deBruijn64tab"], apart := false, laid := [("math/bits.deBruijn64tab", laid_math_bits_deBruijn64tab)] }
def FnDoubledSaid : Prop := fnDoubledRow.holds Tryd.pinned (OpenSpec.ofChange fnDoubledSpec)

/-- ITS FALSE NEIGHBOUR: 'it returns false'. Refute it at one input. -/
def fnDoubledWrong : ChangeSpec := { name := "fnDoubled", fn := fun _ => fun
  | [d1, d2, d3] => { results := [.lit (.bool false)], args := [d1, d2, d3] }
  | _ => none }
def FnDoubledWrongFalsely : Prop := fnDoubledRow.holds Tryd.pinned (OpenSpec.ofChange fnDoubledWrong)

/-- 'laws.FnMultiples': WHATEVER THE INPUT: true; the input reads as it did. -/
def fnMultiplesSpec : ChangeSpec := { name := "fnMultiples", fn := fun _ => fun
  | [d1, d2, d3] => { results := [.lit (.bool true)], args := [d1, d2, d3] }
  | _ => none }
def fnMultiplesRow : OpenClaim := { program := "ytdkcmpblfkgckaadoor", sum := "cbb641ca27586d0bb4015f7493cb0528dda37f4886bad73275ec7830ff0e8e78", func := "loop.example/pub-divisionbyconstants/laws.FnMultiples", spec := "fnMultiples", named := ["math/bits.deBruijn64tab"], apart := false, laid := [("math/bits.deBruijn64tab", laid_math_bits_deBruijn64tab)] }
def FnMultiplesSaid : Prop := fnMultiplesRow.holds Tryd.pinned (OpenSpec.ofChange fnMultiplesSpec)

/-- ITS FALSE NEIGHBOUR: 'it returns false'. Refute it at one input. -/
def fnMultiplesWrong : ChangeSpec := { name := "fnMultiples", fn := fun _ => fun
  | [d1, d2, d3] => { results := [.lit (.bool false)], args := [d1, d2, d3] }
  | _ => none }
def FnMultiplesWrongFalsely : Prop := fnMultiplesRow.holds Tryd.pinned (OpenSpec.ofChange fnMultiplesWrong)

/-- 'laws.FnSignedDivides': WHATEVER THE INPUT: true; the input reads as it did. -/
def fnSignedDividesSpec : ChangeSpec := { name := "fnSignedDivides", fn := fun _ => fun
  | [d1, d2, d3] => { results := [.lit (.bool true)], args := [d1, d2, d3] }
  | _ => none }
def fnSignedDividesRow : OpenClaim := { program := "ytdkcmpblfkgckaadoor", sum := "cbb641ca27586d0bb4015f7493cb0528dda37f4886bad73275ec7830ff0e8e78", func := "loop.example/pub-divisionbyconstants/laws.FnSignedDivides", spec := "fnSignedDivides", named := ["math/bits.deBruijn64tab"], apart := false, laid := [("math/bits.deBruijn64tab", laid_math_bits_deBruijn64tab)] }
def FnSignedDividesSaid : Prop := fnSignedDividesRow.holds Tryd.pinned (OpenSpec.ofChange fnSignedDividesSpec)

/-- ITS FALSE NEIGHBOUR: 'it returns false'. Refute it at one input. -/
def fnSignedDividesWrong : ChangeSpec := { name := "fnSignedDivides", fn := fun _ => fun
  | [d1, d2, d3] => { results := [.lit (.bool false)], args := [d1, d2, d3] }
  | _ => none }
def FnSignedDividesWrongFalsely : Prop := fnSignedDividesRow.holds Tryd.pinned (OpenSpec.ofChange fnSignedDividesWrong)

/-- 'laws.FnSignedTest': WHATEVER THE INPUT: true; the input reads as it did. -/
def fnSignedTestSpec : ChangeSpec := { name := "fnSignedTest", fn := fun _ => fun
  | [d1, d2] => { results := [.lit (.bool true)], args := [d1, d2] }
  | _ => none }
def fnSignedTestRow : OpenClaim := { program := "ytdkcmpblfkgckaadoor", sum := "cbb641ca27586d0bb4015f7493cb0528dda37f4886bad73275ec7830ff0e8e78", func := "loop.example/pub-divisionbyconstants/laws.FnSignedTest", spec := "fnSignedTest", named := ["math/bits.deBruijn64tab"], apart := false, laid := [("math/bits.deBruijn64tab", laid_math_bits_deBruijn64tab)] }
def FnSignedTestSaid : Prop := fnSignedTestRow.holds Tryd.pinned (OpenSpec.ofChange fnSignedTestSpec)

/-- ITS FALSE NEIGHBOUR: 'it returns false'. Refute it at one input. -/
def fnSignedTestWrong : ChangeSpec := { name := "fnSignedTest", fn := fun _ => fun
  | [d1, d2] => { results := [.lit (.bool false)], args := [d1, d2] }
  | _ => none }
def FnSignedTestWrongFalsely : Prop := fnSignedTestRow.holds Tryd.pinned (OpenSpec.ofChange fnSignedTestWrong)

/-- 'laws.FnUnsignedDivides': WHATEVER THE INPUT: true; the input reads as it did. -/
def fnUnsignedDividesSpec : ChangeSpec := { name := "fnUnsignedDivides", fn := fun _ => fun
  | [d1, d2, d3] => { results := [.lit (.bool true)], args := [d1, d2, d3] }
  | _ => none }
def fnUnsignedDividesRow : OpenClaim := { program := "ytdkcmpblfkgckaadoor", sum := "cbb641ca27586d0bb4015f7493cb0528dda37f4886bad73275ec7830ff0e8e78", func := "loop.example/pub-divisionbyconstants/laws.FnUnsignedDivides", spec := "fnUnsignedDivides", named := ["math/bits.deBruijn64tab"], apart := false, laid := [("math/bits.deBruijn64tab", laid_math_bits_deBruijn64tab)] }
def FnUnsignedDividesSaid : Prop := fnUnsignedDividesRow.holds Tryd.pinned (OpenSpec.ofChange fnUnsignedDividesSpec)

/-- ITS FALSE NEIGHBOUR: 'it returns false'. Refute it at one input. -/
def fnUnsignedDividesWrong : ChangeSpec := { name := "fnUnsignedDivides", fn := fun _ => fun
  | [d1, d2, d3] => { results := [.lit (.bool false)], args := [d1, d2, d3] }
  | _ => none }
def FnUnsignedDividesWrongFalsely : Prop := fnUnsignedDividesRow.holds Tryd.pinned (OpenSpec.ofChange fnUnsignedDividesWrong)

/-- 'laws.FnUnsignedTest': WHATEVER THE INPUT: true; the input reads as it did. -/
def fnUnsignedTestSpec : ChangeSpec := { name := "fnUnsignedTest", fn := fun _ => fun
  | [d1, d2] => { results := [.lit (.bool true)], args := [d1, d2] }
  | _ => none }
def fnUnsignedTestRow : OpenClaim := { program := "ytdkcmpblfkgckaadoor", sum := "cbb641ca27586d0bb4015f7493cb0528dda37f4886bad73275ec7830ff0e8e78", func := "loop.example/pub-divisionbyconstants/laws.FnUnsignedTest", spec := "fnUnsignedTest", named := ["math/bits.deBruijn64tab"], apart := false, laid := [("math/bits.deBruijn64tab", laid_math_bits_deBruijn64tab)] }
def FnUnsignedTestSaid : Prop := fnUnsignedTestRow.holds Tryd.pinned (OpenSpec.ofChange fnUnsignedTestSpec)

/-- ITS FALSE NEIGHBOUR: 'it returns false'. Refute it at one input. -/
def fnUnsignedTestWrong : ChangeSpec := { name := "fnUnsignedTest", fn := fun _ => fun
  | [d1, d2] => { results := [.lit (.bool false)], args := [d1, d2] }
  | _ => none }
def FnUnsignedTestWrongFalsely : Prop := fnUnsignedTestRow.holds Tryd.pinned (OpenSpec.ofChange fnUnsignedTestWrong)

/- THE SECOND FORM. 'bulk': how many values and letters a reading holds, each counted each time it is reached (what is shared counts as often as it is met; a slice's spare places count too). A statement '..UptoSaid' is the law's where the arguments, and the package variables that the reading takes, are together of bulk at most 1048576: NARROWER than '..Said'. Prove '..Said' where nothing that the law and all that it calls make is longer than what came in: it says more and counts as full. Else prove '..UptoSaid'. A law counts once. -/
mutual
def uptoBulk {H : Type} : DataW H → Nat
  | .lit (.string bytes) => bytes.length + 1
  | .lit _ => 1
  | .nil => 1
  | .ptr d => uptoBulk d + 1
  | .slice elems spare => uptoBulkAll elems + uptoBulkAll spare + 1
  | .agg parts => uptoBulkAll parts + 1
  | .iface _ d => uptoBulk d + 1
  | .map entries => uptoBulkEntries entries + 1
  | .held _ => 1
def uptoBulkAll {H : Type} : List (DataW H) → Nat
  | [] => 0
  | d :: r => uptoBulk d + uptoBulkAll r
def uptoBulkEntries {H : Type} : List (Lit × DataW H) → Nat
  | [] => 0
  | x :: r => uptoBulkEntry x + uptoBulkEntries r
def uptoBulkEntry {H : Type} : Lit × DataW H → Nat
  | (.string bytes, d) => bytes.length + uptoBulk d + 1
  | (_, d) => uptoBulk d + 1
 end
def uptoSmall : (H : Type) → List (DataW H) → Bool := fun _ ds => decide (uptoBulkAll ds ≤ 1048576)
def OpenSpec.upto (s : _root_.Go.ChangeSpec) : _root_.Go.OpenSpec := { _root_.Go.OpenSpec.ofChange s with cond := some uptoSmall }

/-- 'laws.FnDoubled', WHERE WHAT IT READS IS OF BULK AT MOST 1048576: true; the input reads as it did. -/
def fnDoubledUptoRow : OpenClaim := { program := "ytdkcmpblfkgckaadoor", sum := "cbb641ca27586d0bb4015f7493cb0528dda37f4886bad73275ec7830ff0e8e78", func := "loop.example/pub-divisionbyconstants/laws.FnDoubled", spec := "fnDoubled", named := ["math/bits.deBruijn64tab"], apart := false, laid := [("math/bits.deBruijn64tab", laid_math_bits_deBruijn64tab)], narrowed := true }
def FnDoubledUptoSaid : Prop := fnDoubledUptoRow.holds Tryd.pinned (OpenSpec.upto fnDoubledSpec)

/-- 'laws.FnMultiples', WHERE WHAT IT READS IS OF BULK AT MOST 1048576: true; the input reads as it did. -/
def fnMultiplesUptoRow : OpenClaim := { program := "ytdkcmpblfkgckaadoor", sum := "cbb641ca27586d0bb4015f7493cb0528dda37f4886bad73275ec7830ff0e8e78", func := "loop.example/pub-divisionbyconstants/laws.FnMultiples", spec := "fnMultiples", named := ["math/bits.deBruijn64tab"], apart := false, laid := [("math/bits.deBruijn64tab", laid_math_bits_deBruijn64tab)], narrowed := true }
def FnMultiplesUptoSaid : Prop := fnMultiplesUptoRow.holds Tryd.pinned (OpenSpec.upto fnMultiplesSpec)

/-- 'laws.FnSignedDivides', WHERE WHAT IT READS IS OF BULK AT MOST 1048576: true; the input reads as it did. -/
def fnSignedDividesUptoRow : OpenClaim := { program := "ytdkcmpblfkgckaadoor", sum := "cbb641ca27586d0bb4015f7493cb0528dda37f4886bad73275ec7830ff0e8e78", func := "loop.example/pub-divisionbyconstants/laws.FnSignedDivides", spec := "fnSignedDivides", named := ["math/bits.deBruijn64tab"], apart := false, laid := [("math/bits.deBruijn64tab", laid_math_bits_deBruijn64tab)], narrowed := true }
def FnSignedDividesUptoSaid : Prop := fnSignedDividesUptoRow.holds Tryd.pinned (OpenSpec.upto fnSignedDividesSpec)

/-- 'laws.FnSignedTest', WHERE WHAT IT READS IS OF BULK AT MOST 1048576: true; the input reads as it did. -/
def fnSignedTestUptoRow : OpenClaim := { program := "ytdkcmpblfkgckaadoor", sum := "cbb641ca27586d0bb4015f7493cb0528dda37f4886bad73275ec7830ff0e8e78", func := "loop.example/pub-divisionbyconstants/laws.FnSignedTest", spec := "fnSignedTest", named := ["math/bits.deBruijn64tab"], apart := false, laid := [("math/bits.deBruijn64tab", laid_math_bits_deBruijn64tab)], narrowed := true }
def FnSignedTestUptoSaid : Prop := fnSignedTestUptoRow.holds Tryd.pinned (OpenSpec.upto fnSignedTestSpec)

/-- 'laws.FnUnsignedDivides', WHERE WHAT IT READS IS OF BULK AT MOST 1048576: true; the input reads as it did. -/
def fnUnsignedDividesUptoRow : OpenClaim := { program := "ytdkcmpblfkgckaadoor", sum := "cbb641ca27586d0bb4015f7493cb0528dda37f4886bad73275ec7830ff0e8e78", func := "loop.example/pub-divisionbyconstants/laws.FnUnsignedDivides", spec := "fnUnsignedDivides", named := ["math/bits.deBruijn64tab"], apart := false, laid := [("math/bits.deBruijn64tab", laid_math_bits_deBruijn64tab)], narrowed := true }
def FnUnsignedDividesUptoSaid : Prop := fnUnsignedDividesUptoRow.holds Tryd.pinned (OpenSpec.upto fnUnsignedDividesSpec)

/-- 'laws.FnUnsignedTest', WHERE WHAT IT READS IS OF BULK AT MOST 1048576: true; the input reads as it did. -/
def fnUnsignedTestUptoRow : OpenClaim := { program := "ytdkcmpblfkgckaadoor", sum := "cbb641ca27586d0bb4015f7493cb0528dda37f4886bad73275ec7830ff0e8e78", func := "loop.example/pub-divisionbyconstants/laws.FnUnsignedTest", spec := "fnUnsignedTest", named := ["math/bits.deBruijn64tab"], apart := false, laid := [("math/bits.deBruijn64tab", laid_math_bits_deBruijn64tab)], narrowed := true }
def FnUnsignedTestUptoSaid : Prop := fnUnsignedTestUptoRow.holds Tryd.pinned (OpenSpec.upto fnUnsignedTestSpec)

end Rows
end Go.Proofs.YtdkcmpblfkgckaaDoor
