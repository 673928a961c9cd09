/-
  DERIVED. GIVEN WITH THE SEED: THE CARDS: each row of YtkhjenlclpcehaaDoorRows.lean that lists a variable, with what it lists TIED to the program's text (the seventh form; the later family's looks); each row that meets fmt, with fmt's text TOLD by the authors' own Lean function (tested against real Go, not proved from fmt's source: count such statements apart). THE CARD IS WHAT COUNTS. Prove the row's statement (the work); the ties are given (YtkhjenlclpcehaaDoorTie.lean); close each card by the builder's one call (the guide's Derived/Test/ToyasCard.lean, 'card_holds'). Laid BY PROGRAM, IN A SANDBOX (cutbox-door.mjs). By AI agents, Wed Nov 11 2026. No macro, syntax, notation, axiom, sorry.
-/
import Derived.Test.YtkhjenlclpcehaaDoorRows
import GoSem.ClaimSeven
namespace Go.Proofs.YtkhjenlclpcehaaDoor
namespace Rows

/-- THE TIED CARD OF 'laws.FnIdentMeans'. -/
def fnIdentMeansCard : Claim7 := { stood := { row := fnIdentMeansRow, standIns := [], harness := (true, "5aa7ecda6b9357c9084742df992cc1bde25b07e361ace726a263159915a77e09"), looks := false }, kinds := [], alts := [], laidByText := true, laidKinds := [.data, .data, .data, .data, .sentinel], laidTests := true, laidLooks := .later }
def FnIdentMeansCardSaid : Prop := Claim7.holds Tryd.pinned (.plain (OpenSpec.ofChange fnIdentMeansSpec)) fnIdentMeansCard

/-- THE SECOND FORM's CARD OF 'laws.FnIdentMeans'. -/
def fnIdentMeansUptoCard : Claim7 := { stood := { row := fnIdentMeansUptoRow, standIns := [], harness := (true, "5aa7ecda6b9357c9084742df992cc1bde25b07e361ace726a263159915a77e09"), looks := false }, kinds := [], alts := [], laidByText := true, laidKinds := [.data, .data, .data, .data, .sentinel], laidTests := true, laidLooks := .later }
def FnIdentMeansUptoCardSaid : Prop := Claim7.holds Tryd.pinned (.plain (OpenSpec.upto fnIdentMeansSpec)) fnIdentMeansUptoCard
end Rows
end Go.Proofs.YtkhjenlclpcehaaDoor
