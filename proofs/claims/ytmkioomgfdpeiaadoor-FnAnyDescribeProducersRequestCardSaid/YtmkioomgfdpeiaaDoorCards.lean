/-
  DERIVED. GIVEN WITH THE SEED: THE CARDS: each row of YtmkioomgfdpeiaaDoorRows.lean that lists a variable, with what it lists TIED to the program's text (the seventh form; the later family's looks); each row that meets fmt, with fmt's text TOLD by the authors' own Lean function (tested against real Go, not proved from fmt's source: count such statements apart). THE CARD IS WHAT COUNTS. Prove the row's statement (the work); the ties are given (YtmkioomgfdpeiaaDoorTie.lean); close each card by the builder's one call (the guide's Derived/Test/ToyasCard.lean, 'card_holds'). Laid BY PROGRAM, IN A SANDBOX (cutbox-door.mjs). By AI agents, Wed Nov 11 2026. No macro, syntax, notation, axiom, sorry.
-/
import Derived.Test.YtmkioomgfdpeiaaDoorRows
import GoSem.ClaimSeven
namespace Go.Proofs.YtmkioomgfdpeiaaDoor
namespace Rows

/-- THE TIED CARD OF 'laws.FnAnyApiVersionsRequest'. -/
def fnAnyApiVersionsRequestCard : Claim7 := { stood := { row := fnAnyApiVersionsRequestRow, standIns := [], harness := (true, "5b7d1f4ede2844684bf9b9f7453e5b261f7c8197ebe9a05311456bdb8101b738"), looks := false }, kinds := [], alts := [], laidByText := true, laidKinds := [.sentinel], laidTests := true, laidLooks := .later }
def FnAnyApiVersionsRequestCardSaid : Prop := Claim7.holds Tryd.pinned (.plain (OpenSpec.ofChange fnAnyApiVersionsRequestSpec)) fnAnyApiVersionsRequestCard

/-- THE TIED CARD OF 'laws.FnAnyDescribeProducersRequest'. -/
def fnAnyDescribeProducersRequestCard : Claim7 := { stood := { row := fnAnyDescribeProducersRequestRow, standIns := [], harness := (true, "5b7d1f4ede2844684bf9b9f7453e5b261f7c8197ebe9a05311456bdb8101b738"), looks := false }, kinds := [], alts := [], laidByText := true, laidKinds := [.sentinel], laidTests := true, laidLooks := .later }
def FnAnyDescribeProducersRequestCardSaid : Prop := Claim7.holds Tryd.pinned (.plain (OpenSpec.ofChange fnAnyDescribeProducersRequestSpec)) fnAnyDescribeProducersRequestCard

/-- THE SECOND FORM's CARD OF 'laws.FnAnyApiVersionsRequest'. -/
def fnAnyApiVersionsRequestUptoCard : Claim7 := { stood := { row := fnAnyApiVersionsRequestUptoRow, standIns := [], harness := (true, "5b7d1f4ede2844684bf9b9f7453e5b261f7c8197ebe9a05311456bdb8101b738"), looks := false }, kinds := [], alts := [], laidByText := true, laidKinds := [.sentinel], laidTests := true, laidLooks := .later }
def FnAnyApiVersionsRequestUptoCardSaid : Prop := Claim7.holds Tryd.pinned (.plain (OpenSpec.upto fnAnyApiVersionsRequestSpec)) fnAnyApiVersionsRequestUptoCard

/-- THE SECOND FORM's CARD OF 'laws.FnAnyDescribeProducersRequest'. -/
def fnAnyDescribeProducersRequestUptoCard : Claim7 := { stood := { row := fnAnyDescribeProducersRequestUptoRow, standIns := [], harness := (true, "5b7d1f4ede2844684bf9b9f7453e5b261f7c8197ebe9a05311456bdb8101b738"), looks := false }, kinds := [], alts := [], laidByText := true, laidKinds := [.sentinel], laidTests := true, laidLooks := .later }
def FnAnyDescribeProducersRequestUptoCardSaid : Prop := Claim7.holds Tryd.pinned (.plain (OpenSpec.upto fnAnyDescribeProducersRequestSpec)) fnAnyDescribeProducersRequestUptoCard
end Rows
end Go.Proofs.YtmkioomgfdpeiaaDoor
