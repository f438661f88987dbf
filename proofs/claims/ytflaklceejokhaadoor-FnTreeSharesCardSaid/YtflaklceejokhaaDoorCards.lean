/-
  DERIVED. GIVEN WITH THE SEED: THE CARDS: each row of YtflaklceejokhaaDoorRows.lean that lists a variable, with what it lists TIED to the program's text (the seventh form; the later family's looks); each row that meets fmt, with fmt's text TOLD by the authors' own Lean function (tested against real Go, not proved from fmt's source: count such statements apart). THE CARD IS WHAT COUNTS. Prove the row's statement (the work); the ties are given (YtflaklceejokhaaDoorTie.lean); close each card by the builder's one call (the guide's Derived/Test/ToyasCard.lean, 'card_holds'). Laid BY PROGRAM, IN A SANDBOX (cutbox-door.mjs). By AI agents, Wed Nov 11 2026. No macro, syntax, notation, axiom, sorry.
-/
import Derived.Test.YtflaklceejokhaaDoorRows
import GoSem.ClaimSeven
namespace Go.Proofs.YtflaklceejokhaaDoor
namespace Rows

/-- THE TIED CARD OF 'laws.FnTreeAlone'. -/
def fnTreeAloneCard : Claim7 := { stood := { row := fnTreeAloneRow, standIns := [], harness := (true, "7a6fbb286547562118dfe54c1926d19d40ed5268ea6d85571836f5b993f1e81c"), looks := true }, kinds := [], alts := [], laidByText := true, laidKinds := [.sentinel], laidTests := true, laidLooks := .later }
def FnTreeAloneCardSaid : Prop := Claim7.holds Tryd.pinned (.plain (OpenSpec.ofChange fnTreeAloneSpec)) fnTreeAloneCard

/-- THE TIED CARD OF 'laws.FnTreeShares'. -/
def fnTreeSharesCard : Claim7 := { stood := { row := fnTreeSharesRow, standIns := [], harness := (true, "7a6fbb286547562118dfe54c1926d19d40ed5268ea6d85571836f5b993f1e81c"), looks := true }, kinds := [], alts := [], laidByText := true, laidKinds := [.sentinel], laidTests := true, laidLooks := .later }
def FnTreeSharesCardSaid : Prop := Claim7.holds Tryd.pinned (.plain (OpenSpec.ofChange fnTreeSharesSpec)) fnTreeSharesCard

/-- THE SECOND FORM's CARD OF 'laws.FnTreeAlone'. -/
def fnTreeAloneUptoCard : Claim7 := { stood := { row := fnTreeAloneUptoRow, standIns := [], harness := (true, "7a6fbb286547562118dfe54c1926d19d40ed5268ea6d85571836f5b993f1e81c"), looks := true }, kinds := [], alts := [], laidByText := true, laidKinds := [.sentinel], laidTests := true, laidLooks := .later }
def FnTreeAloneUptoCardSaid : Prop := Claim7.holds Tryd.pinned (.plain (OpenSpec.upto fnTreeAloneSpec)) fnTreeAloneUptoCard

/-- THE SECOND FORM's CARD OF 'laws.FnTreeShares'. -/
def fnTreeSharesUptoCard : Claim7 := { stood := { row := fnTreeSharesUptoRow, standIns := [], harness := (true, "7a6fbb286547562118dfe54c1926d19d40ed5268ea6d85571836f5b993f1e81c"), looks := true }, kinds := [], alts := [], laidByText := true, laidKinds := [.sentinel], laidTests := true, laidLooks := .later }
def FnTreeSharesUptoCardSaid : Prop := Claim7.holds Tryd.pinned (.plain (OpenSpec.upto fnTreeSharesSpec)) fnTreeSharesUptoCard
end Rows
end Go.Proofs.YtflaklceejokhaaDoor
