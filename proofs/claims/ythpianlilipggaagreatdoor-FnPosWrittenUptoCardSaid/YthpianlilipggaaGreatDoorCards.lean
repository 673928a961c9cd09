/-
  DERIVED. GIVEN WITH THE SEED: THE CARDS: each row of YthpianlilipggaaGreatDoorRows.lean that lists a variable, with what it lists TIED to the program's text (the seventh form; the later family's looks); each row that meets fmt, with fmt's text TOLD by the authors' own Lean function (tested against real Go, not proved from fmt's source: count such statements apart). THE CARD IS WHAT COUNTS. Prove the row's statement (the work); the ties are given (YthpianlilipggaaGreatDoorTie.lean); close each card by the builder's one call (the guide's Derived/Test/ToyasCard.lean, 'card_holds'). Laid BY PROGRAM, IN A SANDBOX (cutbox-door.mjs). By AI agents, Wed Nov 11 2026. No macro, syntax, notation, axiom, sorry.
-/
import Derived.Test.YthpianlilipggaaGreatDoorRows
import GoSem.ClaimSeven
namespace Go.Proofs.YthpianlilipggaaGreatDoor
namespace Rows

/-- THE TIED CARD OF 'laws.FnPosWritten'. -/
def fnPosWrittenCard : Claim7 := { stood := { row := fnPosWrittenRow, standIns := [], harness := (true, "788bdd7fbb370186ef379e5f59692b5b732b0ef80d2721b2b4a991d56d209ed7"), looks := true }, kinds := [], alts := [], laidByText := true, laidKinds := [.data, .data, .data, .sentinel, .sentinel, .listed, .data, .pinned, .pinned], laidTests := true, laidLooks := .later }
def FnPosWrittenCardSaid : Prop := Claim7.holds Tryz.pinned (.plain (OpenSpec.ofChange fnPosWrittenSpec)) fnPosWrittenCard

/-- THE SECOND FORM's CARD OF 'laws.FnPosWritten'. -/
def fnPosWrittenUptoCard : Claim7 := { stood := { row := fnPosWrittenUptoRow, standIns := [], harness := (true, "788bdd7fbb370186ef379e5f59692b5b732b0ef80d2721b2b4a991d56d209ed7"), looks := true }, kinds := [], alts := [], laidByText := true, laidKinds := [.data, .data, .data, .sentinel, .sentinel, .listed, .data, .pinned, .pinned], laidTests := true, laidLooks := .later }
def FnPosWrittenUptoCardSaid : Prop := Claim7.holds Tryz.pinned (.plain (OpenSpec.upto fnPosWrittenSpec)) fnPosWrittenUptoCard
end Rows
end Go.Proofs.YthpianlilipggaaGreatDoor
