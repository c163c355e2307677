/-
  DERIVED. GIVEN WITH THE SEED: THE CARDS: each row of YtfijncfoefbohaaGreatDoorRows.lean that lists a variable, with what it lists TIED to the program's text (the seventh form; the later family's looks); each row that meets fmt, with fmt's text TOLD by the authors' own Lean function (tested against real Go, not proved from fmt's source: count such statements apart). THE CARD IS WHAT COUNTS. Prove the row's statement (the work); the ties are given (YtfijncfoefbohaaGreatDoorTie.lean); close each card by the builder's one call (the guide's Derived/Test/ToyasCard.lean, 'card_holds'). Laid BY PROGRAM, IN A SANDBOX (cutbox-door.mjs). By AI agents, Wed Nov 11 2026. No macro, syntax, notation, axiom, sorry.
-/
import Derived.Test.YtfijncfoefbohaaGreatDoorRows
import GoSem.ClaimSeven
namespace Go.Proofs.YtfijncfoefbohaaGreatDoor
namespace Rows

/-- THE TIED CARD OF 'laws.FnParseSet'. -/
def fnParseSetCard : Claim7 := { stood := { row := fnParseSetRow, standIns := [], harness := (true, "c3d487b556ffd1fc2187c38a37dbea5804caf6213bc2966407057536410625fb"), looks := true }, kinds := [], alts := [], laidByText := true, laidKinds := [.data, .data, .data, .data, .sentinel, .sentinel, .sentinel, .sentinel, .sentinel, .sentinel, .pinned, .pinned], laidTests := true, laidLooks := .later }
def FnParseSetCardSaid : Prop := Claim7.holds Tryz.pinned (.plain (OpenSpec.ofChange fnParseSetSpec)) fnParseSetCard

/-- THE SECOND FORM's CARD OF 'laws.FnParseSet'. -/
def fnParseSetUptoCard : Claim7 := { stood := { row := fnParseSetUptoRow, standIns := [], harness := (true, "c3d487b556ffd1fc2187c38a37dbea5804caf6213bc2966407057536410625fb"), looks := true }, kinds := [], alts := [], laidByText := true, laidKinds := [.data, .data, .data, .data, .sentinel, .sentinel, .sentinel, .sentinel, .sentinel, .sentinel, .pinned, .pinned], laidTests := true, laidLooks := .later }
def FnParseSetUptoCardSaid : Prop := Claim7.holds Tryz.pinned (.plain (OpenSpec.upto fnParseSetSpec)) fnParseSetUptoCard
end Rows
end Go.Proofs.YtfijncfoefbohaaGreatDoor
