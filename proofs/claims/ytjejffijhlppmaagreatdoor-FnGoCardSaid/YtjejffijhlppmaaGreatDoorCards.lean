/-
  DERIVED. GIVEN WITH THE SEED: THE CARDS: each row of YtjejffijhlppmaaGreatDoorRows.lean that lists a variable, with what it lists TIED to the program's text (the seventh form; the later family's looks); each row that meets fmt, with fmt's text TOLD by the authors' own Lean function (tested against real Go, not proved from fmt's source: count such statements apart). THE CARD IS WHAT COUNTS. Prove the row's statement (the work); the ties are given (YtjejffijhlppmaaGreatDoorTie.lean); close each card by the builder's one call (the guide's Derived/Test/ToyasCard.lean, 'card_holds'). Laid BY PROGRAM, IN A SANDBOX (cutbox-door.mjs). By AI agents, Wed Nov 11 2026. No macro, syntax, notation, axiom, sorry.
-/
import Derived.Test.YtjejffijhlppmaaGreatDoorRows
import GoSem.ClaimSeven
namespace Go.Proofs.YtjejffijhlppmaaGreatDoor
namespace Rows

/-- THE TIED CARD OF 'laws.FnWidths'. -/
def fnWidthsCard : Claim7 := { stood := { row := fnWidthsRow, standIns := [], harness := (true, "3b75ac0875252a2f34d334c233cbe00ba1a71f772b0f22ec50cd987c1f1d4ada"), looks := false }, kinds := [], alts := [], laidByText := true, laidKinds := [.data, .data, .data, .data, .data], laidTests := true, laidLooks := .later }
def FnWidthsCardSaid : Prop := Claim7.holds Tryz.pinned (.plain (OpenSpec.ofChange fnWidthsSpec)) fnWidthsCard

/-- THE TIED CARD OF 'laws.FnGo'. -/
def fnGoCard : Claim7 := { stood := { row := fnGoRow, standIns := [], harness := (true, "3b75ac0875252a2f34d334c233cbe00ba1a71f772b0f22ec50cd987c1f1d4ada"), looks := false }, kinds := [], alts := [], laidByText := true, laidKinds := [.data, .data, .data, .data, .data], laidTests := true, laidLooks := .later }
def FnGoCardSaid : Prop := Claim7.holds Tryz.pinned (.plain (OpenSpec.ofChange fnGoSpec)) fnGoCard

/-- THE TIED CARD OF 'laws.FnTwoSigns'. -/
def fnTwoSignsCard : Claim7 := { stood := { row := fnTwoSignsRow, standIns := [], harness := (true, "3b75ac0875252a2f34d334c233cbe00ba1a71f772b0f22ec50cd987c1f1d4ada"), looks := false }, kinds := [], alts := [], laidByText := true, laidKinds := [.data, .data, .data, .data, .data], laidTests := true, laidLooks := .later }
def FnTwoSignsCardSaid : Prop := Claim7.holds Tryz.pinned (.plain (OpenSpec.ofChange fnTwoSignsSpec)) fnTwoSignsCard

/-- THE TIED CARD OF 'laws.FnSignedConstants'. -/
def fnSignedConstantsCard : Claim7 := { stood := { row := fnSignedConstantsRow, standIns := [], harness := (true, "3b75ac0875252a2f34d334c233cbe00ba1a71f772b0f22ec50cd987c1f1d4ada"), looks := false }, kinds := [], alts := [], laidByText := true, laidKinds := [.data, .data, .data, .data], laidTests := true, laidLooks := .later }
def FnSignedConstantsCardSaid : Prop := Claim7.holds Tryz.pinned (.plain (OpenSpec.ofChange fnSignedConstantsSpec)) fnSignedConstantsCard

/-- THE TIED CARD OF 'laws.FnSignedQuotient'. -/
def fnSignedQuotientCard : Claim7 := { stood := { row := fnSignedQuotientRow, standIns := [], harness := (true, "3b75ac0875252a2f34d334c233cbe00ba1a71f772b0f22ec50cd987c1f1d4ada"), looks := false }, kinds := [], alts := [], laidByText := true, laidKinds := [.data, .data, .data, .data], laidTests := true, laidLooks := .later }
def FnSignedQuotientCardSaid : Prop := Claim7.holds Tryz.pinned (.plain (OpenSpec.ofChange fnSignedQuotientSpec)) fnSignedQuotientCard

/-- THE TIED CARD OF 'laws.FnRemainder'. -/
def fnRemainderCard : Claim7 := { stood := { row := fnRemainderRow, standIns := [], harness := (true, "3b75ac0875252a2f34d334c233cbe00ba1a71f772b0f22ec50cd987c1f1d4ada"), looks := false }, kinds := [], alts := [], laidByText := true, laidKinds := [.data, .data, .data, .data], laidTests := true, laidLooks := .later }
def FnRemainderCardSaid : Prop := Claim7.holds Tryz.pinned (.plain (OpenSpec.ofChange fnRemainderSpec)) fnRemainderCard

/-- THE TIED CARD OF 'laws.FnStep'. -/
def fnStepCard : Claim7 := { stood := { row := fnStepRow, standIns := [], harness := (true, "3b75ac0875252a2f34d334c233cbe00ba1a71f772b0f22ec50cd987c1f1d4ada"), looks := false }, kinds := [], alts := [], laidByText := true, laidKinds := [.data, .data, .data, .data], laidTests := true, laidLooks := .later }
def FnStepCardSaid : Prop := Claim7.holds Tryz.pinned (.plain (OpenSpec.ofChange fnStepSpec)) fnStepCard

/-- THE TIED CARD OF 'laws.FnUnsignedConstants'. -/
def fnUnsignedConstantsCard : Claim7 := { stood := { row := fnUnsignedConstantsRow, standIns := [], harness := (true, "3b75ac0875252a2f34d334c233cbe00ba1a71f772b0f22ec50cd987c1f1d4ada"), looks := false }, kinds := [], alts := [], laidByText := true, laidKinds := [.data, .data, .data, .data], laidTests := true, laidLooks := .later }
def FnUnsignedConstantsCardSaid : Prop := Claim7.holds Tryz.pinned (.plain (OpenSpec.ofChange fnUnsignedConstantsSpec)) fnUnsignedConstantsCard

/-- THE TIED CARD OF 'laws.FnUnsignedQuotient'. -/
def fnUnsignedQuotientCard : Claim7 := { stood := { row := fnUnsignedQuotientRow, standIns := [], harness := (true, "3b75ac0875252a2f34d334c233cbe00ba1a71f772b0f22ec50cd987c1f1d4ada"), looks := false }, kinds := [], alts := [], laidByText := true, laidKinds := [.data, .data, .data, .data], laidTests := true, laidLooks := .later }
def FnUnsignedQuotientCardSaid : Prop := Claim7.holds Tryz.pinned (.plain (OpenSpec.ofChange fnUnsignedQuotientSpec)) fnUnsignedQuotientCard

/-- THE TIED CARD OF 'laws.FnOpposite'. -/
def fnOppositeCard : Claim7 := { stood := { row := fnOppositeRow, standIns := [], harness := (true, "3b75ac0875252a2f34d334c233cbe00ba1a71f772b0f22ec50cd987c1f1d4ada"), looks := false }, kinds := [], alts := [], laidByText := true, laidKinds := [.data, .data, .data, .data, .data], laidTests := true, laidLooks := .later }
def FnOppositeCardSaid : Prop := Claim7.holds Tryz.pinned (.plain (OpenSpec.ofChange fnOppositeSpec)) fnOppositeCard

/-- THE TIED CARD OF 'laws.FnTwoRoads'. -/
def fnTwoRoadsCard : Claim7 := { stood := { row := fnTwoRoadsRow, standIns := [], harness := (true, "3b75ac0875252a2f34d334c233cbe00ba1a71f772b0f22ec50cd987c1f1d4ada"), looks := false }, kinds := [], alts := [], laidByText := true, laidKinds := [.data, .data, .data, .data, .data], laidTests := true, laidLooks := .later }
def FnTwoRoadsCardSaid : Prop := Claim7.holds Tryz.pinned (.plain (OpenSpec.ofChange fnTwoRoadsSpec)) fnTwoRoadsCard

/-- THE SECOND FORM's CARD OF 'laws.FnWidths'. -/
def fnWidthsUptoCard : Claim7 := { stood := { row := fnWidthsUptoRow, standIns := [], harness := (true, "3b75ac0875252a2f34d334c233cbe00ba1a71f772b0f22ec50cd987c1f1d4ada"), looks := false }, kinds := [], alts := [], laidByText := true, laidKinds := [.data, .data, .data, .data, .data], laidTests := true, laidLooks := .later }
def FnWidthsUptoCardSaid : Prop := Claim7.holds Tryz.pinned (.plain (OpenSpec.upto fnWidthsSpec)) fnWidthsUptoCard

/-- THE SECOND FORM's CARD OF 'laws.FnGo'. -/
def fnGoUptoCard : Claim7 := { stood := { row := fnGoUptoRow, standIns := [], harness := (true, "3b75ac0875252a2f34d334c233cbe00ba1a71f772b0f22ec50cd987c1f1d4ada"), looks := false }, kinds := [], alts := [], laidByText := true, laidKinds := [.data, .data, .data, .data, .data], laidTests := true, laidLooks := .later }
def FnGoUptoCardSaid : Prop := Claim7.holds Tryz.pinned (.plain (OpenSpec.upto fnGoSpec)) fnGoUptoCard

/-- THE SECOND FORM's CARD OF 'laws.FnTwoSigns'. -/
def fnTwoSignsUptoCard : Claim7 := { stood := { row := fnTwoSignsUptoRow, standIns := [], harness := (true, "3b75ac0875252a2f34d334c233cbe00ba1a71f772b0f22ec50cd987c1f1d4ada"), looks := false }, kinds := [], alts := [], laidByText := true, laidKinds := [.data, .data, .data, .data, .data], laidTests := true, laidLooks := .later }
def FnTwoSignsUptoCardSaid : Prop := Claim7.holds Tryz.pinned (.plain (OpenSpec.upto fnTwoSignsSpec)) fnTwoSignsUptoCard

/-- THE SECOND FORM's CARD OF 'laws.FnSignedConstants'. -/
def fnSignedConstantsUptoCard : Claim7 := { stood := { row := fnSignedConstantsUptoRow, standIns := [], harness := (true, "3b75ac0875252a2f34d334c233cbe00ba1a71f772b0f22ec50cd987c1f1d4ada"), looks := false }, kinds := [], alts := [], laidByText := true, laidKinds := [.data, .data, .data, .data], laidTests := true, laidLooks := .later }
def FnSignedConstantsUptoCardSaid : Prop := Claim7.holds Tryz.pinned (.plain (OpenSpec.upto fnSignedConstantsSpec)) fnSignedConstantsUptoCard

/-- THE SECOND FORM's CARD OF 'laws.FnSignedQuotient'. -/
def fnSignedQuotientUptoCard : Claim7 := { stood := { row := fnSignedQuotientUptoRow, standIns := [], harness := (true, "3b75ac0875252a2f34d334c233cbe00ba1a71f772b0f22ec50cd987c1f1d4ada"), looks := false }, kinds := [], alts := [], laidByText := true, laidKinds := [.data, .data, .data, .data], laidTests := true, laidLooks := .later }
def FnSignedQuotientUptoCardSaid : Prop := Claim7.holds Tryz.pinned (.plain (OpenSpec.upto fnSignedQuotientSpec)) fnSignedQuotientUptoCard

/-- THE SECOND FORM's CARD OF 'laws.FnRemainder'. -/
def fnRemainderUptoCard : Claim7 := { stood := { row := fnRemainderUptoRow, standIns := [], harness := (true, "3b75ac0875252a2f34d334c233cbe00ba1a71f772b0f22ec50cd987c1f1d4ada"), looks := false }, kinds := [], alts := [], laidByText := true, laidKinds := [.data, .data, .data, .data], laidTests := true, laidLooks := .later }
def FnRemainderUptoCardSaid : Prop := Claim7.holds Tryz.pinned (.plain (OpenSpec.upto fnRemainderSpec)) fnRemainderUptoCard

/-- THE SECOND FORM's CARD OF 'laws.FnStep'. -/
def fnStepUptoCard : Claim7 := { stood := { row := fnStepUptoRow, standIns := [], harness := (true, "3b75ac0875252a2f34d334c233cbe00ba1a71f772b0f22ec50cd987c1f1d4ada"), looks := false }, kinds := [], alts := [], laidByText := true, laidKinds := [.data, .data, .data, .data], laidTests := true, laidLooks := .later }
def FnStepUptoCardSaid : Prop := Claim7.holds Tryz.pinned (.plain (OpenSpec.upto fnStepSpec)) fnStepUptoCard

/-- THE SECOND FORM's CARD OF 'laws.FnUnsignedConstants'. -/
def fnUnsignedConstantsUptoCard : Claim7 := { stood := { row := fnUnsignedConstantsUptoRow, standIns := [], harness := (true, "3b75ac0875252a2f34d334c233cbe00ba1a71f772b0f22ec50cd987c1f1d4ada"), looks := false }, kinds := [], alts := [], laidByText := true, laidKinds := [.data, .data, .data, .data], laidTests := true, laidLooks := .later }
def FnUnsignedConstantsUptoCardSaid : Prop := Claim7.holds Tryz.pinned (.plain (OpenSpec.upto fnUnsignedConstantsSpec)) fnUnsignedConstantsUptoCard

/-- THE SECOND FORM's CARD OF 'laws.FnUnsignedQuotient'. -/
def fnUnsignedQuotientUptoCard : Claim7 := { stood := { row := fnUnsignedQuotientUptoRow, standIns := [], harness := (true, "3b75ac0875252a2f34d334c233cbe00ba1a71f772b0f22ec50cd987c1f1d4ada"), looks := false }, kinds := [], alts := [], laidByText := true, laidKinds := [.data, .data, .data, .data], laidTests := true, laidLooks := .later }
def FnUnsignedQuotientUptoCardSaid : Prop := Claim7.holds Tryz.pinned (.plain (OpenSpec.upto fnUnsignedQuotientSpec)) fnUnsignedQuotientUptoCard

/-- THE SECOND FORM's CARD OF 'laws.FnOpposite'. -/
def fnOppositeUptoCard : Claim7 := { stood := { row := fnOppositeUptoRow, standIns := [], harness := (true, "3b75ac0875252a2f34d334c233cbe00ba1a71f772b0f22ec50cd987c1f1d4ada"), looks := false }, kinds := [], alts := [], laidByText := true, laidKinds := [.data, .data, .data, .data, .data], laidTests := true, laidLooks := .later }
def FnOppositeUptoCardSaid : Prop := Claim7.holds Tryz.pinned (.plain (OpenSpec.upto fnOppositeSpec)) fnOppositeUptoCard

/-- THE SECOND FORM's CARD OF 'laws.FnTwoRoads'. -/
def fnTwoRoadsUptoCard : Claim7 := { stood := { row := fnTwoRoadsUptoRow, standIns := [], harness := (true, "3b75ac0875252a2f34d334c233cbe00ba1a71f772b0f22ec50cd987c1f1d4ada"), looks := false }, kinds := [], alts := [], laidByText := true, laidKinds := [.data, .data, .data, .data, .data], laidTests := true, laidLooks := .later }
def FnTwoRoadsUptoCardSaid : Prop := Claim7.holds Tryz.pinned (.plain (OpenSpec.upto fnTwoRoadsSpec)) fnTwoRoadsUptoCard
end Rows
end Go.Proofs.YtjejffijhlppmaaGreatDoor
