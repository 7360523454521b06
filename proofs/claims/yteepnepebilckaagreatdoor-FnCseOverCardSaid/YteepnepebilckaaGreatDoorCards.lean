/-
  DERIVED. GIVEN WITH THE SEED: THE CARDS: each row of YteepnepebilckaaGreatDoorRows.lean that lists a variable, with what it lists TIED to the program's text (the seventh form; the later family's looks); each row that meets fmt, with fmt's text TOLD by the authors' own Lean function (tested against real Go, not proved from fmt's source: count such statements apart). THE CARD IS WHAT COUNTS. Prove the row's statement (the work); the ties are given (YteepnepebilckaaGreatDoorTie.lean); close each card by the builder's one call (the guide's Derived/Test/ToyasCard.lean, 'card_holds'). Laid BY PROGRAM, IN A SANDBOX (cutbox-door.mjs). By AI agents, Wed Nov 11 2026. No macro, syntax, notation, axiom, sorry.
-/
import Derived.Test.YteepnepebilckaaGreatDoorRows
import GoSem.ClaimSeven
namespace Go.Proofs.YteepnepebilckaaGreatDoor
namespace Rows

/-- THE TIED CARD OF 'laws.FnPartitionAlike'. -/
def fnPartitionAlikeCard : Claim7 := { stood := { row := fnPartitionAlikeRow, standIns := [], harness := (true, "4ef5ec6ea8e1c4f87708987f2a68e2b2e34fd6bc534d37cce04b16d691dee687"), looks := false }, kinds := [], alts := [], laidByText := true, laidKinds := [.data], laidTests := true, laidLooks := .later }
def FnPartitionAlikeCardSaid : Prop := Claim7.holds Tryz.pinned (.plain (OpenSpec.ofChange fnPartitionAlikeSpec)) fnPartitionAlikeCard

/-- THE TIED CARD OF 'laws.FnPartitionMost'. -/
def fnPartitionMostCard : Claim7 := { stood := { row := fnPartitionMostRow, standIns := [], harness := (true, "4ef5ec6ea8e1c4f87708987f2a68e2b2e34fd6bc534d37cce04b16d691dee687"), looks := false }, kinds := [], alts := [], laidByText := true, laidKinds := [.data], laidTests := true, laidLooks := .later }
def FnPartitionMostCardSaid : Prop := Claim7.holds Tryz.pinned (.plain (OpenSpec.ofChange fnPartitionMostSpec)) fnPartitionMostCard

/-- THE TIED CARD OF 'laws.FnCseRuns'. -/
def fnCseRunsCard : Claim7 := { stood := { row := fnCseRunsRow, standIns := [], harness := (true, "4ef5ec6ea8e1c4f87708987f2a68e2b2e34fd6bc534d37cce04b16d691dee687"), looks := false }, kinds := [], alts := [], laidByText := true, laidKinds := [.data], laidTests := true, laidLooks := .later }
def FnCseRunsCardSaid : Prop := Claim7.holds Tryz.pinned (.plain (OpenSpec.ofChange fnCseRunsSpec)) fnCseRunsCard

/-- THE TIED CARD OF 'laws.FnCseOver'. -/
def fnCseOverCard : Claim7 := { stood := { row := fnCseOverRow, standIns := [], harness := (true, "4ef5ec6ea8e1c4f87708987f2a68e2b2e34fd6bc534d37cce04b16d691dee687"), looks := false }, kinds := [], alts := [], laidByText := true, laidKinds := [.data], laidTests := true, laidLooks := .later }
def FnCseOverCardSaid : Prop := Claim7.holds Tryz.pinned (.plain (OpenSpec.ofChange fnCseOverSpec)) fnCseOverCard

/-- THE TIED CARD OF 'laws.FnAllRun'. -/
def fnAllRunCard : Claim7 := { stood := { row := fnAllRunRow, standIns := [], harness := (true, "4ef5ec6ea8e1c4f87708987f2a68e2b2e34fd6bc534d37cce04b16d691dee687"), looks := false }, kinds := [], alts := [], laidByText := true, laidKinds := [.data], laidTests := true, laidLooks := .later }
def FnAllRunCardSaid : Prop := Claim7.holds Tryz.pinned (.plain (OpenSpec.ofChange fnAllRunSpec)) fnAllRunCard

/-- THE SECOND FORM's CARD OF 'laws.FnPartitionAlike'. -/
def fnPartitionAlikeUptoCard : Claim7 := { stood := { row := fnPartitionAlikeUptoRow, standIns := [], harness := (true, "4ef5ec6ea8e1c4f87708987f2a68e2b2e34fd6bc534d37cce04b16d691dee687"), looks := false }, kinds := [], alts := [], laidByText := true, laidKinds := [.data], laidTests := true, laidLooks := .later }
def FnPartitionAlikeUptoCardSaid : Prop := Claim7.holds Tryz.pinned (.plain (OpenSpec.upto fnPartitionAlikeSpec)) fnPartitionAlikeUptoCard

/-- THE SECOND FORM's CARD OF 'laws.FnPartitionMost'. -/
def fnPartitionMostUptoCard : Claim7 := { stood := { row := fnPartitionMostUptoRow, standIns := [], harness := (true, "4ef5ec6ea8e1c4f87708987f2a68e2b2e34fd6bc534d37cce04b16d691dee687"), looks := false }, kinds := [], alts := [], laidByText := true, laidKinds := [.data], laidTests := true, laidLooks := .later }
def FnPartitionMostUptoCardSaid : Prop := Claim7.holds Tryz.pinned (.plain (OpenSpec.upto fnPartitionMostSpec)) fnPartitionMostUptoCard

/-- THE SECOND FORM's CARD OF 'laws.FnCseRuns'. -/
def fnCseRunsUptoCard : Claim7 := { stood := { row := fnCseRunsUptoRow, standIns := [], harness := (true, "4ef5ec6ea8e1c4f87708987f2a68e2b2e34fd6bc534d37cce04b16d691dee687"), looks := false }, kinds := [], alts := [], laidByText := true, laidKinds := [.data], laidTests := true, laidLooks := .later }
def FnCseRunsUptoCardSaid : Prop := Claim7.holds Tryz.pinned (.plain (OpenSpec.upto fnCseRunsSpec)) fnCseRunsUptoCard

/-- THE SECOND FORM's CARD OF 'laws.FnCseOver'. -/
def fnCseOverUptoCard : Claim7 := { stood := { row := fnCseOverUptoRow, standIns := [], harness := (true, "4ef5ec6ea8e1c4f87708987f2a68e2b2e34fd6bc534d37cce04b16d691dee687"), looks := false }, kinds := [], alts := [], laidByText := true, laidKinds := [.data], laidTests := true, laidLooks := .later }
def FnCseOverUptoCardSaid : Prop := Claim7.holds Tryz.pinned (.plain (OpenSpec.upto fnCseOverSpec)) fnCseOverUptoCard

/-- THE SECOND FORM's CARD OF 'laws.FnAllRun'. -/
def fnAllRunUptoCard : Claim7 := { stood := { row := fnAllRunUptoRow, standIns := [], harness := (true, "4ef5ec6ea8e1c4f87708987f2a68e2b2e34fd6bc534d37cce04b16d691dee687"), looks := false }, kinds := [], alts := [], laidByText := true, laidKinds := [.data], laidTests := true, laidLooks := .later }
def FnAllRunUptoCardSaid : Prop := Claim7.holds Tryz.pinned (.plain (OpenSpec.upto fnAllRunSpec)) fnAllRunUptoCard
end Rows
end Go.Proofs.YteepnepebilckaaGreatDoor
