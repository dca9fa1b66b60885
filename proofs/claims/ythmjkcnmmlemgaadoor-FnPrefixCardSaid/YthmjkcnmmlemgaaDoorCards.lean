/-
  DERIVED. GIVEN WITH THE SEED: THE CARDS: each row of YthmjkcnmmlemgaaDoorRows.lean that lists a variable, with what it lists TIED to the program's text (the seventh form; the later family's looks); each row that meets fmt, with fmt's text TOLD by the authors' own Lean function (tested against real Go, not proved from fmt's source: count such statements apart). THE CARD IS WHAT COUNTS. Prove the row's statement (the work); the ties are given (YthmjkcnmmlemgaaDoorTie.lean); close each card by the builder's one call (the guide's Derived/Test/ToyasCard.lean, 'card_holds'). Laid BY PROGRAM, IN A SANDBOX (cutbox-door.mjs). By AI agents, Wed Nov 11 2026. No macro, syntax, notation, axiom, sorry.
-/
import Derived.Test.YthmjkcnmmlemgaaDoorRows
import GoSem.ClaimSeven
namespace Go.Proofs.YthmjkcnmmlemgaaDoor
namespace Rows

/-- THE TIED CARD OF 'laws.FnPrefix'. -/
def fnPrefixCard : Claim7 := { stood := { row := fnPrefixRow, standIns := [], harness := (true, "6e3e0d43e97fce321840da06ef4a1a00eb56e0ee349502750a7b7a835174a67c"), looks := true }, kinds := [], alts := [], laidByText := true, laidKinds := [.data, .data], laidTests := true, laidLooks := .later }
def FnPrefixCardSaid : Prop := Claim7.holds Tryd.pinned (.plain (OpenSpec.ofChange fnPrefixSpec)) fnPrefixCard

/-- THE SECOND FORM's CARD OF 'laws.FnPrefix'. -/
def fnPrefixUptoCard : Claim7 := { stood := { row := fnPrefixUptoRow, standIns := [], harness := (true, "6e3e0d43e97fce321840da06ef4a1a00eb56e0ee349502750a7b7a835174a67c"), looks := true }, kinds := [], alts := [], laidByText := true, laidKinds := [.data, .data], laidTests := true, laidLooks := .later }
def FnPrefixUptoCardSaid : Prop := Claim7.holds Tryd.pinned (.plain (OpenSpec.upto fnPrefixSpec)) fnPrefixUptoCard
end Rows
end Go.Proofs.YthmjkcnmmlemgaaDoor
