/-
  DERIVED. GIVEN WITH THE SEED: THE CARDS: each row of YtpfgdfgifdbijaaDoorRows.lean that lists a variable, with what it lists TIED to the program's text (the seventh form; the later family's looks); each row that meets fmt, with fmt's text TOLD by the authors' own Lean function (tested against real Go, not proved from fmt's source: count such statements apart). THE CARD IS WHAT COUNTS. Prove the row's statement (the work); the ties are given (YtpfgdfgifdbijaaDoorTie.lean); close each card by the builder's one call (the guide's Derived/Test/ToyasCard.lean, 'card_holds'). Laid BY PROGRAM, IN A SANDBOX (cutbox-door.mjs). By AI agents, Wed Nov 11 2026. No macro, syntax, notation, axiom, sorry.
-/
import Derived.Test.YtpfgdfgifdbijaaDoorRows
import GoSem.ClaimSeven
namespace Go.Proofs.YtpfgdfgifdbijaaDoor
namespace Rows

/-- THE TIED CARD OF 'laws.FnCoordsString'. -/
def fnCoordsStringCard : Claim7 := { stood := { row := fnCoordsStringRow, standIns := [], harness := (true, "6a502550d99117c23b0aeda8a7c9cedfdeefb258dd75b73b0a72ec9b6f291a9d"), looks := false }, kinds := [], alts := [], laidByText := true, laidKinds := [.data, .data, .data, .data, .pinned, .pinned], laidTests := true, laidLooks := .later }
def FnCoordsStringCardSaid : Prop := Claim7.holds Tryd.pinned (.plain (OpenSpec.ofChange fnCoordsStringSpec)) fnCoordsStringCard

/-- THE SECOND FORM's CARD OF 'laws.FnCoordsString'. -/
def fnCoordsStringUptoCard : Claim7 := { stood := { row := fnCoordsStringUptoRow, standIns := [], harness := (true, "6a502550d99117c23b0aeda8a7c9cedfdeefb258dd75b73b0a72ec9b6f291a9d"), looks := false }, kinds := [], alts := [], laidByText := true, laidKinds := [.data, .data, .data, .data, .pinned, .pinned], laidTests := true, laidLooks := .later }
def FnCoordsStringUptoCardSaid : Prop := Claim7.holds Tryd.pinned (.plain (OpenSpec.upto fnCoordsStringSpec)) fnCoordsStringUptoCard
end Rows
end Go.Proofs.YtpfgdfgifdbijaaDoor
