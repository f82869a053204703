/-
  DERIVED. GIVEN WITH THE SEED: THE CARDS: each row of YtempfaefopfobaaDoorRows.lean that lists a variable, with what it lists TIED to the program's text (the seventh form; the later family's looks); each row that meets fmt, with fmt's text TOLD by the authors' own Lean function (tested against real Go, not proved from fmt's source: count such statements apart). THE CARD IS WHAT COUNTS. Prove the row's statement (the work); the ties are given (YtempfaefopfobaaDoorTie.lean); close each card by the builder's one call (the guide's Derived/Test/ToyasCard.lean, 'card_holds'). Laid BY PROGRAM, IN A SANDBOX (cutbox-door.mjs). By AI agents, Wed Nov 11 2026. No macro, syntax, notation, axiom, sorry.
-/
import Derived.Test.YtempfaefopfobaaDoorRows
import GoSem.ClaimSeven
namespace Go.Proofs.YtempfaefopfobaaDoor
namespace Rows

/-- THE TIED CARD OF 'laws.FnGuessElem'. -/
def fnGuessElemCard : Claim7 := { stood := { row := fnGuessElemRow, standIns := [], harness := (true, "3d0c39b8712d38d09a83af69051f245a7ba325537c348c6ec201e48325d8341a"), looks := true }, kinds := [], alts := [], laidByText := true, laidKinds := [.data], laidTests := true, laidLooks := .later }
def FnGuessElemCardSaid : Prop := Claim7.holds Tryd.pinned (.plain (OpenSpec.ofChange fnGuessElemSpec)) fnGuessElemCard

/-- THE SECOND FORM's CARD OF 'laws.FnGuessElem'. -/
def fnGuessElemUptoCard : Claim7 := { stood := { row := fnGuessElemUptoRow, standIns := [], harness := (true, "3d0c39b8712d38d09a83af69051f245a7ba325537c348c6ec201e48325d8341a"), looks := true }, kinds := [], alts := [], laidByText := true, laidKinds := [.data], laidTests := true, laidLooks := .later }
def FnGuessElemUptoCardSaid : Prop := Claim7.holds Tryd.pinned (.plain (OpenSpec.upto fnGuessElemSpec)) fnGuessElemUptoCard
end Rows
end Go.Proofs.YtempfaefopfobaaDoor
