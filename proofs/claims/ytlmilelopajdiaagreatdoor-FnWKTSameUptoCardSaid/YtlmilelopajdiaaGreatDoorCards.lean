/-
  DERIVED. GIVEN WITH THE SEED: THE CARDS: each row of YtlmilelopajdiaaGreatDoorRows.lean that lists a variable, with what it lists TIED to the program's text (the seventh form; the later family's looks); each row that meets fmt, with fmt's text TOLD by the authors' own Lean function (tested against real Go, not proved from fmt's source: count such statements apart). THE CARD IS WHAT COUNTS. Prove the row's statement (the work); the ties are given (YtlmilelopajdiaaGreatDoorTie.lean); close each card by the builder's one call (the guide's Derived/Test/ToyasCard.lean, 'card_holds'). Laid BY PROGRAM, IN A SANDBOX (cutbox-door.mjs). By AI agents, Wed Nov 11 2026. No macro, syntax, notation, axiom, sorry.
-/
import Derived.Test.YtlmilelopajdiaaGreatDoorRows
import GoSem.ClaimSeven
namespace Go.Proofs.YtlmilelopajdiaaGreatDoor
namespace Rows

/-- THE TIED CARD OF 'laws.FnWKTSame'. -/
def fnWKTSameCard : Claim7 := { stood := { row := fnWKTSameRow, standIns := [], harness := (true, "1f28cb9b0538250f348251e959c7133eee0ffcb2890389c35cbfa0fb519e32c4"), looks := true }, kinds := [], alts := [], laidByText := true, laidKinds := [.data, .data, .data, .data, .pinned, .pinned], laidTests := true, laidLooks := .later }
def FnWKTSameCardSaid : Prop := Claim7.holds Tryz.pinned (.plain (OpenSpec.ofChange fnWKTSameSpec)) fnWKTSameCard

/-- THE SECOND FORM's CARD OF 'laws.FnWKTSame'. -/
def fnWKTSameUptoCard : Claim7 := { stood := { row := fnWKTSameUptoRow, standIns := [], harness := (true, "1f28cb9b0538250f348251e959c7133eee0ffcb2890389c35cbfa0fb519e32c4"), looks := true }, kinds := [], alts := [], laidByText := true, laidKinds := [.data, .data, .data, .data, .pinned, .pinned], laidTests := true, laidLooks := .later }
def FnWKTSameUptoCardSaid : Prop := Claim7.holds Tryz.pinned (.plain (OpenSpec.upto fnWKTSameSpec)) fnWKTSameUptoCard
end Rows
end Go.Proofs.YtlmilelopajdiaaGreatDoor
