/-
  DERIVED. GIVEN WITH THE SEED: THE CARDS: each row of YtmglaaejobbbiaaDoorRows.lean that lists a variable, with what it lists TIED to the program's text (the seventh form; the later family's looks); each row that meets fmt, with fmt's text TOLD by the authors' own Lean function (tested against real Go, not proved from fmt's source: count such statements apart). THE CARD IS WHAT COUNTS. Prove the row's statement (the work); the ties are given (YtmglaaejobbbiaaDoorTie.lean); close each card by the builder's one call (the guide's Derived/Test/ToyasCard.lean, 'card_holds'). Laid BY PROGRAM, IN A SANDBOX (cutbox-door.mjs). By AI agents, Wed Nov 11 2026. No macro, syntax, notation, axiom, sorry.
-/
import Derived.Test.YtmglaaejobbbiaaDoorRows
import GoSem.ClaimSeven
namespace Go.Proofs.YtmglaaejobbbiaaDoor
namespace Rows

/-- THE TIED CARD OF 'laws.FnCompare'. -/
def fnCompareCard : Claim7 := { stood := { row := fnCompareRow, standIns := [], harness := (true, "84e52e056edd4a7184a73da1fffefdc789e1f93c9beb2d882f55534bc8cc4cf7"), looks := true }, kinds := [], alts := [], laidByText := true, laidKinds := [.data, .data], laidTests := true, laidLooks := .later }
def FnCompareCardSaid : Prop := Claim7.holds Tryd.pinned (.plain (OpenSpec.ofChange fnCompareSpec)) fnCompareCard

/-- THE SECOND FORM's CARD OF 'laws.FnCompare'. -/
def fnCompareUptoCard : Claim7 := { stood := { row := fnCompareUptoRow, standIns := [], harness := (true, "84e52e056edd4a7184a73da1fffefdc789e1f93c9beb2d882f55534bc8cc4cf7"), looks := true }, kinds := [], alts := [], laidByText := true, laidKinds := [.data, .data], laidTests := true, laidLooks := .later }
def FnCompareUptoCardSaid : Prop := Claim7.holds Tryd.pinned (.plain (OpenSpec.upto fnCompareSpec)) fnCompareUptoCard
end Rows
end Go.Proofs.YtmglaaejobbbiaaDoor
