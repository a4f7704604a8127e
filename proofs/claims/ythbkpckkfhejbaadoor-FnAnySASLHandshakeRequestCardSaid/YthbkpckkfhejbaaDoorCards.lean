/-
  DERIVED. GIVEN WITH THE SEED: THE CARDS: each row of YthbkpckkfhejbaaDoorRows.lean that lists a variable, with what it lists TIED to the program's text (the seventh form; the later family's looks); each row that meets fmt, with fmt's text TOLD by the authors' own Lean function (tested against real Go, not proved from fmt's source: count such statements apart). THE CARD IS WHAT COUNTS. Prove the row's statement (the work); the ties are given (YthbkpckkfhejbaaDoorTie.lean); close each card by the builder's one call (the guide's Derived/Test/ToyasCard.lean, 'card_holds'). Laid BY PROGRAM, IN A SANDBOX (cutbox-door.mjs). By AI agents, Wed Nov 11 2026. No macro, syntax, notation, axiom, sorry.
-/
import Derived.Test.YthbkpckkfhejbaaDoorRows
import GoSem.ClaimSeven
namespace Go.Proofs.YthbkpckkfhejbaaDoor
namespace Rows

/-- THE TIED CARD OF 'laws.FnAnySASLHandshakeRequest'. -/
def fnAnySASLHandshakeRequestCard : Claim7 := { stood := { row := fnAnySASLHandshakeRequestRow, standIns := [], harness := (true, "3a3e17abb1a02e211425be4be7065a97aa82995b37b578b4f68263101d15dc50"), looks := false }, kinds := [], alts := [], laidByText := true, laidKinds := [.sentinel], laidTests := true, laidLooks := .later }
def FnAnySASLHandshakeRequestCardSaid : Prop := Claim7.holds Tryd.pinned (.plain (OpenSpec.ofChange fnAnySASLHandshakeRequestSpec)) fnAnySASLHandshakeRequestCard

/-- THE SECOND FORM's CARD OF 'laws.FnAnySASLHandshakeRequest'. -/
def fnAnySASLHandshakeRequestUptoCard : Claim7 := { stood := { row := fnAnySASLHandshakeRequestUptoRow, standIns := [], harness := (true, "3a3e17abb1a02e211425be4be7065a97aa82995b37b578b4f68263101d15dc50"), looks := false }, kinds := [], alts := [], laidByText := true, laidKinds := [.sentinel], laidTests := true, laidLooks := .later }
def FnAnySASLHandshakeRequestUptoCardSaid : Prop := Claim7.holds Tryd.pinned (.plain (OpenSpec.upto fnAnySASLHandshakeRequestSpec)) fnAnySASLHandshakeRequestUptoCard
end Rows
end Go.Proofs.YthbkpckkfhejbaaDoor
