/-
  DERIVED. GIVEN WITH THE SEED: THE CARDS: each row of YtbmgilgglfnnbaaDoorRows.lean that lists a variable, with what it lists TIED to the program's text (the seventh form; the later family's looks); each row that meets fmt, with fmt's text TOLD by the authors' own Lean function (tested against real Go, not proved from fmt's source: count such statements apart). THE CARD IS WHAT COUNTS. Prove the row's statement (the work); the ties are given (YtbmgilgglfnnbaaDoorTie.lean); close each card by the builder's one call (the guide's Derived/Test/ToyasCard.lean, 'card_holds'). Laid BY PROGRAM, IN A SANDBOX (cutbox-door.mjs). By AI agents, Wed Nov 11 2026. No macro, syntax, notation, axiom, sorry.
-/
import Derived.Test.YtbmgilgglfnnbaaDoorRows
import GoSem.ClaimSeven
namespace Go.Proofs.YtbmgilgglfnnbaaDoor
namespace Rows

/-- THE TIED CARD OF 'laws.FnShort'. -/
def fnShortCard : Claim7 := { stood := { row := fnShortRow, standIns := [], harness := (true, "11c40d6f9ed0877e46364b9cd5050ee07667d2a5258a795bb9cf9f2683c6f571"), looks := true }, kinds := [], alts := [], laidByText := true, laidKinds := [.data, .data], laidTests := true, laidLooks := .later }
def FnShortCardSaid : Prop := Claim7.holds Tryd.pinned (.plain (OpenSpec.ofChange fnShortSpec)) fnShortCard

/-- THE SECOND FORM's CARD OF 'laws.FnShort'. -/
def fnShortUptoCard : Claim7 := { stood := { row := fnShortUptoRow, standIns := [], harness := (true, "11c40d6f9ed0877e46364b9cd5050ee07667d2a5258a795bb9cf9f2683c6f571"), looks := true }, kinds := [], alts := [], laidByText := true, laidKinds := [.data, .data], laidTests := true, laidLooks := .later }
def FnShortUptoCardSaid : Prop := Claim7.holds Tryd.pinned (.plain (OpenSpec.upto fnShortSpec)) fnShortUptoCard
end Rows
end Go.Proofs.YtbmgilgglfnnbaaDoor
