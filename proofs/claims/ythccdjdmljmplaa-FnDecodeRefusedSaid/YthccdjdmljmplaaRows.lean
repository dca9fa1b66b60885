/-
  No cell of these rows narrows 'for every input' (looked for: loops, veiled, ifaces, maps, wideKeys, modest, calm, conditions, laid).
  DERIVED. THE GIVEN ROWS OF THIS SEAT. 3 by the template 'for every input the law returns true; each argument reads behind the call as it read before'; 0 by the template 'total and deterministic' (their statements: YthccdjdmljmplaaTotals.lean).
  GIVEN WITH THE SEED: the statements are not yours to turn. If you find one false, say at which input.
  Laid BY PROGRAM, IN A SANDBOX (cutbox-rows.mjs): the forced cells as the released guide's own fill.sh prints them over the translation 8fcec4359b20467e… (all of the seat's roots in one cut). By AI agents, Wed Nov 11 2026. No macro, syntax, notation, axiom, sorry.
-/
import Derived.Test.YthccdjdmljmplaaChecked
import GoSem.Claim
import GoSem.ClaimJoined
import GoSem.ClaimMapViews
import Derived.JoinedTies
import Derived.KernelRfl
namespace Go.Proofs.Ythccdjdmljmplaa
/- THE CELL 'sum', in the pinned program and in every row, IS THE sha256 OF THE DUMP (.gsa) THAT YthccdjdmljmplaaProg.lean LOADS. Nothing in Lean hashes anything: it is a label: what it is worth is what the hold of that sum in a sandbox is worth. -/
noncomputable def Try.pinned : Pinned := { name := "ythccdjdmljmplaa", sum := "8fcec4359b20467ee11998a55f0ee79b83f42f9ef309e791bbfe80987b4779fa", checked := Try.checked }
namespace Rows
def none {H : Type} : Left H := { results := [], args := [] }

/-- 'laws.FnEncode': WHATEVER THE INPUT: true; the input reads as it did. -/
def fnEncodeSpec : ChangeSpec := { name := "fnEncode", fn := fun _ => fun
  | [d] => { results := [.lit (.bool true)], args := [d] }
  | _ => none }
def fnEncodeRow : OpenClaim := { program := "ythccdjdmljmplaa", sum := "8fcec4359b20467ee11998a55f0ee79b83f42f9ef309e791bbfe80987b4779fa", func := "loop.example/pub-g03046/laws.FnEncode", spec := "fnEncode", apart := false }
def FnEncodeSaid : Prop := fnEncodeRow.holds Try.pinned (OpenSpec.ofChange fnEncodeSpec)

/-- ITS FALSE NEIGHBOUR: 'it returns false'. Refute it at one input. -/
def fnEncodeWrong : ChangeSpec := { name := "fnEncode", fn := fun _ => fun
  | [d] => { results := [.lit (.bool false)], args := [d] }
  | _ => none }
def FnEncodeWrongFalsely : Prop := fnEncodeRow.holds Try.pinned (OpenSpec.ofChange fnEncodeWrong)

/-- 'laws.FnDecodeEncode': WHATEVER THE INPUT: true; the input reads as it did. -/
def fnDecodeEncodeSpec : ChangeSpec := { name := "fnDecodeEncode", fn := fun _ => fun
  | [d] => { results := [.lit (.bool true)], args := [d] }
  | _ => none }
def fnDecodeEncodeRow : OpenClaim := { program := "ythccdjdmljmplaa", sum := "8fcec4359b20467ee11998a55f0ee79b83f42f9ef309e791bbfe80987b4779fa", func := "loop.example/pub-g03046/laws.FnDecodeEncode", spec := "fnDecodeEncode", apart := false }
def FnDecodeEncodeSaid : Prop := fnDecodeEncodeRow.holds Try.pinned (OpenSpec.ofChange fnDecodeEncodeSpec)

/-- ITS FALSE NEIGHBOUR: 'it returns false'. Refute it at one input. -/
def fnDecodeEncodeWrong : ChangeSpec := { name := "fnDecodeEncode", fn := fun _ => fun
  | [d] => { results := [.lit (.bool false)], args := [d] }
  | _ => none }
def FnDecodeEncodeWrongFalsely : Prop := fnDecodeEncodeRow.holds Try.pinned (OpenSpec.ofChange fnDecodeEncodeWrong)

/-- 'laws.FnDecodeRefused': WHATEVER THE INPUT: true; the input reads as it did. -/
def fnDecodeRefusedSpec : ChangeSpec := { name := "fnDecodeRefused", fn := fun _ => fun
  | [d] => { results := [.lit (.bool true)], args := [d] }
  | _ => none }
def fnDecodeRefusedRow : OpenClaim := { program := "ythccdjdmljmplaa", sum := "8fcec4359b20467ee11998a55f0ee79b83f42f9ef309e791bbfe80987b4779fa", func := "loop.example/pub-g03046/laws.FnDecodeRefused", spec := "fnDecodeRefused", apart := false }
def FnDecodeRefusedSaid : Prop := fnDecodeRefusedRow.holds Try.pinned (OpenSpec.ofChange fnDecodeRefusedSpec)

/-- ITS FALSE NEIGHBOUR: 'it returns false'. Refute it at one input. -/
def fnDecodeRefusedWrong : ChangeSpec := { name := "fnDecodeRefused", fn := fun _ => fun
  | [d] => { results := [.lit (.bool false)], args := [d] }
  | _ => none }
def FnDecodeRefusedWrongFalsely : Prop := fnDecodeRefusedRow.holds Try.pinned (OpenSpec.ofChange fnDecodeRefusedWrong)

/- THE SECOND FORM. 'bulk': how many values and letters a reading holds, each counted each time it is reached (what is shared counts as often as it is met; a slice's spare places count too). A statement '..UptoSaid' is the law's where the arguments, and the package variables that the reading takes, are together of bulk at most 1048576: NARROWER than '..Said'. Prove '..Said' where nothing that the law and all that it calls make is longer than what came in: it says more and counts as full. Else prove '..UptoSaid'. A law counts once. -/
mutual
def uptoBulk {H : Type} : DataW H → Nat
  | .lit (.string bytes) => bytes.length + 1
  | .lit _ => 1
  | .nil => 1
  | .ptr d => uptoBulk d + 1
  | .slice elems spare => uptoBulkAll elems + uptoBulkAll spare + 1
  | .agg parts => uptoBulkAll parts + 1
  | .iface _ d => uptoBulk d + 1
  | .map entries => uptoBulkEntries entries + 1
  | .held _ => 1
def uptoBulkAll {H : Type} : List (DataW H) → Nat
  | [] => 0
  | d :: r => uptoBulk d + uptoBulkAll r
def uptoBulkEntries {H : Type} : List (Lit × DataW H) → Nat
  | [] => 0
  | x :: r => uptoBulkEntry x + uptoBulkEntries r
def uptoBulkEntry {H : Type} : Lit × DataW H → Nat
  | (.string bytes, d) => bytes.length + uptoBulk d + 1
  | (_, d) => uptoBulk d + 1
 end
def uptoSmall : (H : Type) → List (DataW H) → Bool := fun _ ds => decide (uptoBulkAll ds ≤ 1048576)
def OpenSpec.upto (s : _root_.Go.ChangeSpec) : _root_.Go.OpenSpec := { _root_.Go.OpenSpec.ofChange s with cond := some uptoSmall }

/-- 'laws.FnEncode', WHERE WHAT IT READS IS OF BULK AT MOST 1048576: true; the input reads as it did. -/
def fnEncodeUptoRow : OpenClaim := { program := "ythccdjdmljmplaa", sum := "8fcec4359b20467ee11998a55f0ee79b83f42f9ef309e791bbfe80987b4779fa", func := "loop.example/pub-g03046/laws.FnEncode", spec := "fnEncode", apart := false, narrowed := true }
def FnEncodeUptoSaid : Prop := fnEncodeUptoRow.holds Try.pinned (OpenSpec.upto fnEncodeSpec)

/-- 'laws.FnDecodeEncode', WHERE WHAT IT READS IS OF BULK AT MOST 1048576: true; the input reads as it did. -/
def fnDecodeEncodeUptoRow : OpenClaim := { program := "ythccdjdmljmplaa", sum := "8fcec4359b20467ee11998a55f0ee79b83f42f9ef309e791bbfe80987b4779fa", func := "loop.example/pub-g03046/laws.FnDecodeEncode", spec := "fnDecodeEncode", apart := false, narrowed := true }
def FnDecodeEncodeUptoSaid : Prop := fnDecodeEncodeUptoRow.holds Try.pinned (OpenSpec.upto fnDecodeEncodeSpec)

/-- 'laws.FnDecodeRefused', WHERE WHAT IT READS IS OF BULK AT MOST 1048576: true; the input reads as it did. -/
def fnDecodeRefusedUptoRow : OpenClaim := { program := "ythccdjdmljmplaa", sum := "8fcec4359b20467ee11998a55f0ee79b83f42f9ef309e791bbfe80987b4779fa", func := "loop.example/pub-g03046/laws.FnDecodeRefused", spec := "fnDecodeRefused", apart := false, narrowed := true }
def FnDecodeRefusedUptoSaid : Prop := fnDecodeRefusedUptoRow.holds Try.pinned (OpenSpec.upto fnDecodeRefusedSpec)

end Rows
end Go.Proofs.Ythccdjdmljmplaa
