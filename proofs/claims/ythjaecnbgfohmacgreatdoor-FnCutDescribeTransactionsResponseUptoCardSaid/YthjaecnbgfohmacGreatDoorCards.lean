/-
  DERIVED. GIVEN WITH THE SEED: THE CARDS: each row of YthjaecnbgfohmacGreatDoorRows.lean that lists a variable, with what it lists TIED to the program's text (the seventh form; the later family's looks); each row that meets fmt, with fmt's text TOLD by the authors' own Lean function (tested against real Go, not proved from fmt's source: count such statements apart). THE CARD IS WHAT COUNTS. Prove the row's statement (the work); the ties are given (YthjaecnbgfohmacGreatDoorTie.lean); close each card by the builder's one call (the guide's Derived/Test/ToyasCard.lean, 'card_holds'). Laid BY PROGRAM, IN A SANDBOX (cutbox-door.mjs). By AI agents, Wed Nov 11 2026. No macro, syntax, notation, axiom, sorry.
-/
import Derived.Test.YthjaecnbgfohmacGreatDoorRows
import GoSem.ClaimSeven
namespace Go.Proofs.YthjaecnbgfohmacGreatDoor
namespace Rows

/-- THE TIED CARD OF 'laws.FnCutCreatePartitionsRequest'. -/
def fnCutCreatePartitionsRequestCard : Claim7 := { stood := { row := fnCutCreatePartitionsRequestRow, standIns := [], harness := (true, "990f1afa63357dba39a1240c3aae0f2690ace68bbc354a5df57d4d46b999654e"), looks := false }, kinds := [], alts := [], laidByText := true, laidKinds := [.sentinel], laidTests := true, laidLooks := .later }
def FnCutCreatePartitionsRequestCardSaid : Prop := Claim7.holds Tryz.pinned (.plain (OpenSpec.ofChange fnCutCreatePartitionsRequestSpec)) fnCutCreatePartitionsRequestCard

/-- THE TIED CARD OF 'laws.FnCutListOffsetsRequest'. -/
def fnCutListOffsetsRequestCard : Claim7 := { stood := { row := fnCutListOffsetsRequestRow, standIns := [], harness := (true, "990f1afa63357dba39a1240c3aae0f2690ace68bbc354a5df57d4d46b999654e"), looks := false }, kinds := [], alts := [], laidByText := true, laidKinds := [.sentinel], laidTests := true, laidLooks := .later }
def FnCutListOffsetsRequestCardSaid : Prop := Claim7.holds Tryz.pinned (.plain (OpenSpec.ofChange fnCutListOffsetsRequestSpec)) fnCutListOffsetsRequestCard

/-- THE TIED CARD OF 'laws.FnCutShareGroupHeartbeatResponse'. -/
def fnCutShareGroupHeartbeatResponseCard : Claim7 := { stood := { row := fnCutShareGroupHeartbeatResponseRow, standIns := [], harness := (true, "990f1afa63357dba39a1240c3aae0f2690ace68bbc354a5df57d4d46b999654e"), looks := false }, kinds := [], alts := [], laidByText := true, laidKinds := [.sentinel], laidTests := true, laidLooks := .later }
def FnCutShareGroupHeartbeatResponseCardSaid : Prop := Claim7.holds Tryz.pinned (.plain (OpenSpec.ofChange fnCutShareGroupHeartbeatResponseSpec)) fnCutShareGroupHeartbeatResponseCard

/-- THE TIED CARD OF 'laws.FnCutDescribeTransactionsResponse'. -/
def fnCutDescribeTransactionsResponseCard : Claim7 := { stood := { row := fnCutDescribeTransactionsResponseRow, standIns := [], harness := (true, "990f1afa63357dba39a1240c3aae0f2690ace68bbc354a5df57d4d46b999654e"), looks := false }, kinds := [], alts := [], laidByText := true, laidKinds := [.sentinel], laidTests := true, laidLooks := .later }
def FnCutDescribeTransactionsResponseCardSaid : Prop := Claim7.holds Tryz.pinned (.plain (OpenSpec.ofChange fnCutDescribeTransactionsResponseSpec)) fnCutDescribeTransactionsResponseCard

/-- THE SECOND FORM's CARD OF 'laws.FnCutCreatePartitionsRequest'. -/
def fnCutCreatePartitionsRequestUptoCard : Claim7 := { stood := { row := fnCutCreatePartitionsRequestUptoRow, standIns := [], harness := (true, "990f1afa63357dba39a1240c3aae0f2690ace68bbc354a5df57d4d46b999654e"), looks := false }, kinds := [], alts := [], laidByText := true, laidKinds := [.sentinel], laidTests := true, laidLooks := .later }
def FnCutCreatePartitionsRequestUptoCardSaid : Prop := Claim7.holds Tryz.pinned (.plain (OpenSpec.upto fnCutCreatePartitionsRequestSpec)) fnCutCreatePartitionsRequestUptoCard

/-- THE SECOND FORM's CARD OF 'laws.FnCutListOffsetsRequest'. -/
def fnCutListOffsetsRequestUptoCard : Claim7 := { stood := { row := fnCutListOffsetsRequestUptoRow, standIns := [], harness := (true, "990f1afa63357dba39a1240c3aae0f2690ace68bbc354a5df57d4d46b999654e"), looks := false }, kinds := [], alts := [], laidByText := true, laidKinds := [.sentinel], laidTests := true, laidLooks := .later }
def FnCutListOffsetsRequestUptoCardSaid : Prop := Claim7.holds Tryz.pinned (.plain (OpenSpec.upto fnCutListOffsetsRequestSpec)) fnCutListOffsetsRequestUptoCard

/-- THE SECOND FORM's CARD OF 'laws.FnCutShareGroupHeartbeatResponse'. -/
def fnCutShareGroupHeartbeatResponseUptoCard : Claim7 := { stood := { row := fnCutShareGroupHeartbeatResponseUptoRow, standIns := [], harness := (true, "990f1afa63357dba39a1240c3aae0f2690ace68bbc354a5df57d4d46b999654e"), looks := false }, kinds := [], alts := [], laidByText := true, laidKinds := [.sentinel], laidTests := true, laidLooks := .later }
def FnCutShareGroupHeartbeatResponseUptoCardSaid : Prop := Claim7.holds Tryz.pinned (.plain (OpenSpec.upto fnCutShareGroupHeartbeatResponseSpec)) fnCutShareGroupHeartbeatResponseUptoCard

/-- THE SECOND FORM's CARD OF 'laws.FnCutDescribeTransactionsResponse'. -/
def fnCutDescribeTransactionsResponseUptoCard : Claim7 := { stood := { row := fnCutDescribeTransactionsResponseUptoRow, standIns := [], harness := (true, "990f1afa63357dba39a1240c3aae0f2690ace68bbc354a5df57d4d46b999654e"), looks := false }, kinds := [], alts := [], laidByText := true, laidKinds := [.sentinel], laidTests := true, laidLooks := .later }
def FnCutDescribeTransactionsResponseUptoCardSaid : Prop := Claim7.holds Tryz.pinned (.plain (OpenSpec.upto fnCutDescribeTransactionsResponseSpec)) fnCutDescribeTransactionsResponseUptoCard
end Rows
end Go.Proofs.YthjaecnbgfohmacGreatDoor
