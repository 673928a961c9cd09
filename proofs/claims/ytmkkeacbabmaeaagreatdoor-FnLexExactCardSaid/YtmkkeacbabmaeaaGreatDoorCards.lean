/-
  DERIVED. GIVEN WITH THE SEED: THE CARDS: each row of YtmkkeacbabmaeaaGreatDoorRows.lean that lists a variable, with what it lists TIED to the program's text (the seventh form; the later family's looks); each row that meets fmt, with fmt's text TOLD by the authors' own Lean function (tested against real Go, not proved from fmt's source: count such statements apart). THE CARD IS WHAT COUNTS. Prove the row's statement (the work); the ties are given (YtmkkeacbabmaeaaGreatDoorTie.lean); close each card by the builder's one call (the guide's Derived/Test/ToyasCard.lean, 'card_holds'). Laid BY PROGRAM, IN A SANDBOX (cutbox-door.mjs). By AI agents, Wed Nov 11 2026. No macro, syntax, notation, axiom, sorry.
-/
import Derived.Test.YtmkkeacbabmaeaaGreatDoorRows
import GoSem.ClaimSeven
namespace Go.Proofs.YtmkkeacbabmaeaaGreatDoor
namespace Rows

/-- THE TIED CARD OF 'laws.FnLexExact'. -/
def fnLexExactCard : Claim7 := { stood := { row := fnLexExactRow, standIns := [], harness := (true, "c4b37ac41ad28ce2e705a367aa1df15861ae37881dda162d2e0899547a2032b2"), looks := true }, kinds := [], alts := [], laidByText := true, laidKinds := [.data, .data, .data, .data, .handle, .sentinel, .sentinel, .listed, .sentinel, .pinned], laidTests := true, laidLooks := .later }
def FnLexExactCardSaid : Prop := Claim7.holds Tryz.pinned (.plain (OpenSpec.ofChange fnLexExactSpec)) fnLexExactCard

/-- THE SECOND FORM's CARD OF 'laws.FnLexExact'. -/
def fnLexExactUptoCard : Claim7 := { stood := { row := fnLexExactUptoRow, standIns := [], harness := (true, "c4b37ac41ad28ce2e705a367aa1df15861ae37881dda162d2e0899547a2032b2"), looks := true }, kinds := [], alts := [], laidByText := true, laidKinds := [.data, .data, .data, .data, .handle, .sentinel, .sentinel, .listed, .sentinel, .pinned], laidTests := true, laidLooks := .later }
def FnLexExactUptoCardSaid : Prop := Claim7.holds Tryz.pinned (.plain (OpenSpec.upto fnLexExactSpec)) fnLexExactUptoCard
end Rows
end Go.Proofs.YtmkkeacbabmaeaaGreatDoor
