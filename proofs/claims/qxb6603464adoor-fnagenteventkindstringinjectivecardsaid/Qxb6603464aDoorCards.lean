/-
  DERIVED. GIVEN WITH THE SEED: THE CARDS: each row of Qxb6603464aDoorRows.lean that lists a variable, with what it lists TIED to the program's text (the seventh form; the later family's looks); each row that meets fmt, with fmt's text TOLD by the authors' own Lean function (tested against real Go, not proved from fmt's source: count such statements apart). THE CARD IS WHAT COUNTS. Prove the row's statement (the work); the ties are given (Qxb6603464aDoorTie.lean); close each card by the builder's one call (the guide's Derived/Test/ToyasCard.lean, 'card_holds'). Laid BY PROGRAM, IN A SANDBOX (cutbox-door.mjs). By AI agents, Wed Nov 11 2026. No macro, syntax, notation, axiom, sorry.
-/
import Derived.Test.Qxb6603464aDoorRows
import GoSem.ClaimSeven
namespace Go.Proofs.Qxb6603464aDoor
namespace Rows

/-- THE TIED CARD OF 'zzlaws_root_b1.FnAgentEventKindStringInjective'. -/
def fnAgentEventKindStringInjectiveCard : Claim7 := { stood := { row := fnAgentEventKindStringInjectiveRow, standIns := [], harness := (true, "d34956a069c57b103fc07785b8f8e44d2a253f5c235457aa20161928c3653f72"), looks := false }, kinds := [], alts := [], laidByText := true, laidKinds := [.data, .data, .data], laidTests := true, laidLooks := .later }
def FnAgentEventKindStringInjectiveCardSaid : Prop := Claim7.holds Tryd.pinned (.plain (OpenSpec.ofChange fnAgentEventKindStringInjectiveSpec)) fnAgentEventKindStringInjectiveCard
end Rows
end Go.Proofs.Qxb6603464aDoor
