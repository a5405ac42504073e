/-
  DERIVED. GIVEN WITH THE SEED: THE CARDS: each row of YthlhcfjpijilaaaDoorRows.lean that lists a variable, with what it lists TIED to the program's text (the seventh form; the later family's looks); each row that meets fmt, with fmt's text TOLD by the authors' own Lean function (tested against real Go, not proved from fmt's source: count such statements apart). THE CARD IS WHAT COUNTS. Prove the row's statement (the work); the ties are given (YthlhcfjpijilaaaDoorTie.lean); close each card by the builder's one call (the guide's Derived/Test/ToyasCard.lean, 'card_holds'). Laid BY PROGRAM, IN A SANDBOX (cutbox-door.mjs). By AI agents, Wed Nov 11 2026. No macro, syntax, notation, axiom, sorry.
-/
import Derived.Test.YthlhcfjpijilaaaDoorRows
import GoSem.ClaimSeven
namespace Go.Proofs.YthlhcfjpijilaaaDoor
namespace Rows

/-- THE TIED CARD OF 'laws.FnUnpackWidth'. -/
def fnUnpackWidthCard : Claim7 := { stood := { row := fnUnpackWidthRow, standIns := [], harness := (true, "830dcd0f8a0d69b7d7a40cee1f76798b16fbe57d8443075847489249a8b1cd8b"), looks := true }, kinds := [], alts := [], laidByText := true, laidKinds := [.sentinel], laidTests := true, laidLooks := .later }
def FnUnpackWidthCardSaid : Prop := Claim7.holds Tryd.pinned (.plain (OpenSpec.ofChange fnUnpackWidthSpec)) fnUnpackWidthCard

/-- THE SECOND FORM's CARD OF 'laws.FnUnpackWidth'. -/
def fnUnpackWidthUptoCard : Claim7 := { stood := { row := fnUnpackWidthUptoRow, standIns := [], harness := (true, "830dcd0f8a0d69b7d7a40cee1f76798b16fbe57d8443075847489249a8b1cd8b"), looks := true }, kinds := [], alts := [], laidByText := true, laidKinds := [.sentinel], laidTests := true, laidLooks := .later }
def FnUnpackWidthUptoCardSaid : Prop := Claim7.holds Tryd.pinned (.plain (OpenSpec.upto fnUnpackWidthSpec)) fnUnpackWidthUptoCard
end Rows
end Go.Proofs.YthlhcfjpijilaaaDoor
