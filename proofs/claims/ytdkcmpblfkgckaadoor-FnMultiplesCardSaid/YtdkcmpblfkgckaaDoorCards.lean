/-
  DERIVED. GIVEN WITH THE SEED: THE CARDS: each row of YtdkcmpblfkgckaaDoorRows.lean that lists a variable, with what it lists TIED to the program's text (the seventh form; the later family's looks); each row that meets fmt, with fmt's text TOLD by the authors' own Lean function (tested against real Go, not proved from fmt's source: count such statements apart). THE CARD IS WHAT COUNTS. Prove the row's statement (the work); the ties are given (YtdkcmpblfkgckaaDoorTie.lean); close each card by the builder's one call (the guide's Derived/Test/ToyasCard.lean, 'card_holds'). Laid BY PROGRAM, IN A SANDBOX (cutbox-door.mjs). By AI agents, Wed Nov 11 2026. No macro, syntax, notation, axiom, sorry.
-/
import Derived.Test.YtdkcmpblfkgckaaDoorRows
import GoSem.ClaimSeven
namespace Go.Proofs.YtdkcmpblfkgckaaDoor
namespace Rows

/-- THE TIED CARD OF 'laws.FnDoubled'. -/
def fnDoubledCard : Claim7 := { stood := { row := fnDoubledRow, standIns := [], harness := (true, "c003ab35134baafda836d3309cca3aca6e54c08743f0baf1994c84a9177448e4"), looks := false }, kinds := [], alts := [], laidByText := true, laidKinds := [.data], laidTests := true, laidLooks := .later }
def FnDoubledCardSaid : Prop := Claim7.holds Tryd.pinned (.plain (OpenSpec.ofChange fnDoubledSpec)) fnDoubledCard

/-- THE TIED CARD OF 'laws.FnMultiples'. -/
def fnMultiplesCard : Claim7 := { stood := { row := fnMultiplesRow, standIns := [], harness := (true, "c003ab35134baafda836d3309cca3aca6e54c08743f0baf1994c84a9177448e4"), looks := false }, kinds := [], alts := [], laidByText := true, laidKinds := [.data], laidTests := true, laidLooks := .later }
def FnMultiplesCardSaid : Prop := Claim7.holds Tryd.pinned (.plain (OpenSpec.ofChange fnMultiplesSpec)) fnMultiplesCard

/-- THE TIED CARD OF 'laws.FnSignedDivides'. -/
def fnSignedDividesCard : Claim7 := { stood := { row := fnSignedDividesRow, standIns := [], harness := (true, "c003ab35134baafda836d3309cca3aca6e54c08743f0baf1994c84a9177448e4"), looks := false }, kinds := [], alts := [], laidByText := true, laidKinds := [.data], laidTests := true, laidLooks := .later }
def FnSignedDividesCardSaid : Prop := Claim7.holds Tryd.pinned (.plain (OpenSpec.ofChange fnSignedDividesSpec)) fnSignedDividesCard

/-- THE TIED CARD OF 'laws.FnSignedTest'. -/
def fnSignedTestCard : Claim7 := { stood := { row := fnSignedTestRow, standIns := [], harness := (true, "c003ab35134baafda836d3309cca3aca6e54c08743f0baf1994c84a9177448e4"), looks := false }, kinds := [], alts := [], laidByText := true, laidKinds := [.data], laidTests := true, laidLooks := .later }
def FnSignedTestCardSaid : Prop := Claim7.holds Tryd.pinned (.plain (OpenSpec.ofChange fnSignedTestSpec)) fnSignedTestCard

/-- THE TIED CARD OF 'laws.FnUnsignedDivides'. -/
def fnUnsignedDividesCard : Claim7 := { stood := { row := fnUnsignedDividesRow, standIns := [], harness := (true, "c003ab35134baafda836d3309cca3aca6e54c08743f0baf1994c84a9177448e4"), looks := false }, kinds := [], alts := [], laidByText := true, laidKinds := [.data], laidTests := true, laidLooks := .later }
def FnUnsignedDividesCardSaid : Prop := Claim7.holds Tryd.pinned (.plain (OpenSpec.ofChange fnUnsignedDividesSpec)) fnUnsignedDividesCard

/-- THE TIED CARD OF 'laws.FnUnsignedTest'. -/
def fnUnsignedTestCard : Claim7 := { stood := { row := fnUnsignedTestRow, standIns := [], harness := (true, "c003ab35134baafda836d3309cca3aca6e54c08743f0baf1994c84a9177448e4"), looks := false }, kinds := [], alts := [], laidByText := true, laidKinds := [.data], laidTests := true, laidLooks := .later }
def FnUnsignedTestCardSaid : Prop := Claim7.holds Tryd.pinned (.plain (OpenSpec.ofChange fnUnsignedTestSpec)) fnUnsignedTestCard

/-- THE SECOND FORM's CARD OF 'laws.FnDoubled'. -/
def fnDoubledUptoCard : Claim7 := { stood := { row := fnDoubledUptoRow, standIns := [], harness := (true, "c003ab35134baafda836d3309cca3aca6e54c08743f0baf1994c84a9177448e4"), looks := false }, kinds := [], alts := [], laidByText := true, laidKinds := [.data], laidTests := true, laidLooks := .later }
def FnDoubledUptoCardSaid : Prop := Claim7.holds Tryd.pinned (.plain (OpenSpec.upto fnDoubledSpec)) fnDoubledUptoCard

/-- THE SECOND FORM's CARD OF 'laws.FnMultiples'. -/
def fnMultiplesUptoCard : Claim7 := { stood := { row := fnMultiplesUptoRow, standIns := [], harness := (true, "c003ab35134baafda836d3309cca3aca6e54c08743f0baf1994c84a9177448e4"), looks := false }, kinds := [], alts := [], laidByText := true, laidKinds := [.data], laidTests := true, laidLooks := .later }
def FnMultiplesUptoCardSaid : Prop := Claim7.holds Tryd.pinned (.plain (OpenSpec.upto fnMultiplesSpec)) fnMultiplesUptoCard

/-- THE SECOND FORM's CARD OF 'laws.FnSignedDivides'. -/
def fnSignedDividesUptoCard : Claim7 := { stood := { row := fnSignedDividesUptoRow, standIns := [], harness := (true, "c003ab35134baafda836d3309cca3aca6e54c08743f0baf1994c84a9177448e4"), looks := false }, kinds := [], alts := [], laidByText := true, laidKinds := [.data], laidTests := true, laidLooks := .later }
def FnSignedDividesUptoCardSaid : Prop := Claim7.holds Tryd.pinned (.plain (OpenSpec.upto fnSignedDividesSpec)) fnSignedDividesUptoCard

/-- THE SECOND FORM's CARD OF 'laws.FnSignedTest'. -/
def fnSignedTestUptoCard : Claim7 := { stood := { row := fnSignedTestUptoRow, standIns := [], harness := (true, "c003ab35134baafda836d3309cca3aca6e54c08743f0baf1994c84a9177448e4"), looks := false }, kinds := [], alts := [], laidByText := true, laidKinds := [.data], laidTests := true, laidLooks := .later }
def FnSignedTestUptoCardSaid : Prop := Claim7.holds Tryd.pinned (.plain (OpenSpec.upto fnSignedTestSpec)) fnSignedTestUptoCard

/-- THE SECOND FORM's CARD OF 'laws.FnUnsignedDivides'. -/
def fnUnsignedDividesUptoCard : Claim7 := { stood := { row := fnUnsignedDividesUptoRow, standIns := [], harness := (true, "c003ab35134baafda836d3309cca3aca6e54c08743f0baf1994c84a9177448e4"), looks := false }, kinds := [], alts := [], laidByText := true, laidKinds := [.data], laidTests := true, laidLooks := .later }
def FnUnsignedDividesUptoCardSaid : Prop := Claim7.holds Tryd.pinned (.plain (OpenSpec.upto fnUnsignedDividesSpec)) fnUnsignedDividesUptoCard

/-- THE SECOND FORM's CARD OF 'laws.FnUnsignedTest'. -/
def fnUnsignedTestUptoCard : Claim7 := { stood := { row := fnUnsignedTestUptoRow, standIns := [], harness := (true, "c003ab35134baafda836d3309cca3aca6e54c08743f0baf1994c84a9177448e4"), looks := false }, kinds := [], alts := [], laidByText := true, laidKinds := [.data], laidTests := true, laidLooks := .later }
def FnUnsignedTestUptoCardSaid : Prop := Claim7.holds Tryd.pinned (.plain (OpenSpec.upto fnUnsignedTestSpec)) fnUnsignedTestUptoCard
end Rows
end Go.Proofs.YtdkcmpblfkgckaaDoor
