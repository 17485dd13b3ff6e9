/-
  DERIVED. GIVEN WITH THE SEED: THE CARDS: each row of YtobdfhlmipcjbaaGreatDoorRows.lean that lists a variable, with what it lists TIED to the program's text (the seventh form; the later family's looks); each row that meets fmt, with fmt's text TOLD by the authors' own Lean function (tested against real Go, not proved from fmt's source: count such statements apart). THE CARD IS WHAT COUNTS. Prove the row's statement (the work); the ties are given (YtobdfhlmipcjbaaGreatDoorTie.lean); close each card by the builder's one call (the guide's Derived/Test/ToyasCard.lean, 'card_holds'). Laid BY PROGRAM, IN A SANDBOX (cutbox-door.mjs). By AI agents, Wed Nov 11 2026. No macro, syntax, notation, axiom, sorry.
-/
import Derived.Test.YtobdfhlmipcjbaaGreatDoorRows
import GoSem.ClaimSeven
namespace Go.Proofs.YtobdfhlmipcjbaaGreatDoor
namespace Rows

/-- THE TIED CARD OF 'laws.FnScript'. -/
def fnScriptCard : Claim7 := { stood := { row := fnScriptRow, standIns := [], harness := (true, "6176f5dcf28a2a8fa1bc3871c4aa91c3c15f8df4b146f360e31f0300f816d24b"), looks := true }, kinds := [], alts := [], laidByText := true, laidKinds := [.data, .data, .data, .sentinel, .sentinel, .sentinel, .sentinel], laidTests := true, laidLooks := .later }
def FnScriptCardSaid : Prop := Claim7.holds Tryz.pinned (.plain (OpenSpec.ofChange fnScriptSpec)) fnScriptCard

/-- THE SECOND FORM's CARD OF 'laws.FnScript'. -/
def fnScriptUptoCard : Claim7 := { stood := { row := fnScriptUptoRow, standIns := [], harness := (true, "6176f5dcf28a2a8fa1bc3871c4aa91c3c15f8df4b146f360e31f0300f816d24b"), looks := true }, kinds := [], alts := [], laidByText := true, laidKinds := [.data, .data, .data, .sentinel, .sentinel, .sentinel, .sentinel], laidTests := true, laidLooks := .later }
def FnScriptUptoCardSaid : Prop := Claim7.holds Tryz.pinned (.plain (OpenSpec.upto fnScriptSpec)) fnScriptUptoCard
end Rows
end Go.Proofs.YtobdfhlmipcjbaaGreatDoor
