/-
  DERIVED. GIVEN WITH THE SEED: THE CARDS: each row of YtbacpeilgfmblaaDoorRows.lean that lists a variable, with what it lists TIED to the program's text (the seventh form; the later family's looks); each row that meets fmt, with fmt's text TOLD by the authors' own Lean function (tested against real Go, not proved from fmt's source: count such statements apart). THE CARD IS WHAT COUNTS. Prove the row's statement (the work); the ties are given (YtbacpeilgfmblaaDoorTie.lean); close each card by the builder's one call (the guide's Derived/Test/ToyasCard.lean, 'card_holds'). Laid BY PROGRAM, IN A SANDBOX (cutbox-door.mjs). By AI agents, Wed Nov 11 2026. No macro, syntax, notation, axiom, sorry.
-/
import Derived.Test.YtbacpeilgfmblaaDoorRows
import GoSem.ClaimSeven
namespace Go.Proofs.YtbacpeilgfmblaaDoor
namespace Rows

/-- THE TIED CARD OF 'laws.FnIncrementalAlterConfigOpText'. -/
def fnIncrementalAlterConfigOpTextCard : Claim7 := { stood := { row := fnIncrementalAlterConfigOpTextRow, standIns := [], harness := (true, "9d17013fe418c168c54c4598d2b2342873358f0afb2f6026f4db164718a1dfc1"), looks := false }, kinds := [], alts := [], laidByText := true, laidKinds := [.data, .listed, .data, .pinned, .pinned], laidTests := true, laidLooks := .later }
def FnIncrementalAlterConfigOpTextCardSaid : Prop := Claim7.holds Tryd.pinned (.plain (OpenSpec.ofChange fnIncrementalAlterConfigOpTextSpec)) fnIncrementalAlterConfigOpTextCard

/-- THE SECOND FORM's CARD OF 'laws.FnIncrementalAlterConfigOpText'. -/
def fnIncrementalAlterConfigOpTextUptoCard : Claim7 := { stood := { row := fnIncrementalAlterConfigOpTextUptoRow, standIns := [], harness := (true, "9d17013fe418c168c54c4598d2b2342873358f0afb2f6026f4db164718a1dfc1"), looks := false }, kinds := [], alts := [], laidByText := true, laidKinds := [.data, .listed, .data, .pinned, .pinned], laidTests := true, laidLooks := .later }
def FnIncrementalAlterConfigOpTextUptoCardSaid : Prop := Claim7.holds Tryd.pinned (.plain (OpenSpec.upto fnIncrementalAlterConfigOpTextSpec)) fnIncrementalAlterConfigOpTextUptoCard
end Rows
end Go.Proofs.YtbacpeilgfmblaaDoor
