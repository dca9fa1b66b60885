/-
  No cell of these rows narrows 'for every input' (looked for: loops, veiled, ifaces, maps, wideKeys, modest, calm, conditions, laid).
  DERIVED. THE GIVEN ROWS OF THIS SEAT. 1 by the template 'for every input the law returns true; each argument reads behind the call as it read before'; 0 by the template 'total and deterministic' (their statements: YtiihokjofmfdkaaDoorTotals.lean).
  GIVEN WITH THE SEED: the statements are not yours to turn. If you find one false, say at which input.
  Laid BY PROGRAM, IN A SANDBOX (cutbox-rows.mjs): the forced cells as the released guide's own fill.sh prints them over the translation 77cc6ba011534d2b… (all of the seat's roots in one cut). By AI agents, Wed Nov 11 2026. No macro, syntax, notation, axiom, sorry.
-/
import Derived.Test.YtiihokjofmfdkaaDoorChecked
import GoSem.Claim
import GoSem.ClaimJoined
import GoSem.ClaimMapViews
import Derived.JoinedTies
import Derived.KernelRfl
namespace Go.Proofs.YtiihokjofmfdkaaDoor
/- THE CELL 'sum', in the pinned program and in every row, IS THE sha256 OF THE DUMP (.gsa) THAT YtiihokjofmfdkaaDoorProg.lean LOADS. Nothing in Lean hashes anything: it is a label: what it is worth is what the hold of that sum in a sandbox is worth. -/
noncomputable def Tryd.pinned : Pinned := { name := "ytiihokjofmfdkaadoor", sum := "77cc6ba011534d2b0ee7bc9b47b744de88ac4526c9b0b9aacb696d89bbf689dc", checked := Tryd.checked }
namespace Rows
def none {H : Type} : Left H := { results := [], args := [] }

/-- 'laws.FnHashLong': WHATEVER THE INPUT: true; the input reads as it did. -/
def fnHashLongSpec : ChangeSpec := { name := "fnHashLong", vars := ["loop.example/pub-g03046/pub/crypto/bcrypt.magicCipherData", "loop.example/pub-g03046/pub/crypto/blowfish.p", "loop.example/pub-g03046/pub/crypto/blowfish.s0", "loop.example/pub-g03046/pub/crypto/blowfish.s1", "loop.example/pub-g03046/pub/crypto/blowfish.s2", "loop.example/pub-g03046/pub/crypto/blowfish.s3"], fn := fun _ => fun
  | [d1, d2, d3, g1, g2, g3, g4, g5, g6] => { results := [.lit (.bool true)], args := [d1, d2, d3], vars := [g1, g2, g3, g4, g5, g6] }
  | _ => none }
def fnHashLongRow : OpenClaim := { program := "ytiihokjofmfdkaadoor", sum := "77cc6ba011534d2b0ee7bc9b47b744de88ac4526c9b0b9aacb696d89bbf689dc", func := "loop.example/pub-g03046/laws.FnHashLong", spec := "fnHashLong", named := ["loop.example/pub-g03046/pub/crypto/bcrypt.magicCipherData", "loop.example/pub-g03046/pub/crypto/blowfish.p", "loop.example/pub-g03046/pub/crypto/blowfish.s0", "loop.example/pub-g03046/pub/crypto/blowfish.s1", "loop.example/pub-g03046/pub/crypto/blowfish.s2", "loop.example/pub-g03046/pub/crypto/blowfish.s3"], apart := false }
def FnHashLongSaid : Prop := fnHashLongRow.holds Tryd.pinned (OpenSpec.ofChange fnHashLongSpec)

/-- ITS FALSE NEIGHBOUR: 'it returns false'. Refute it at one input. -/
def fnHashLongWrong : ChangeSpec := { name := "fnHashLong", vars := ["loop.example/pub-g03046/pub/crypto/bcrypt.magicCipherData", "loop.example/pub-g03046/pub/crypto/blowfish.p", "loop.example/pub-g03046/pub/crypto/blowfish.s0", "loop.example/pub-g03046/pub/crypto/blowfish.s1", "loop.example/pub-g03046/pub/crypto/blowfish.s2", "loop.example/pub-g03046/pub/crypto/blowfish.s3"], fn := fun _ => fun
  | [d1, d2, d3, g1, g2, g3, g4, g5, g6] => { results := [.lit (.bool false)], args := [d1, d2, d3], vars := [g1, g2, g3, g4, g5, g6] }
  | _ => none }
def FnHashLongWrongFalsely : Prop := fnHashLongRow.holds Tryd.pinned (OpenSpec.ofChange fnHashLongWrong)

/- THE SECOND FORM. 'bulk': how many values and letters a reading holds, each counted each time it is reached (what is shared counts as often as it is met; a slice's spare places count too). A statement '..UptoSaid' is the law's where the arguments, and the package variables that the reading takes, are together of bulk at most 1048576: NARROWER than '..Said'. Prove '..Said' where nothing that the law and all that it calls make is longer than what came in: it says more and counts as full. Else prove '..UptoSaid'. A law counts once. -/
mutual
def uptoBulk {H : Type} : DataW H → Nat
  | .lit (.string bytes) => bytes.length + 1
  | .lit _ => 1
  | .nil => 1
  | .ptr d => uptoBulk d + 1
  | .slice elems spare => uptoBulkAll elems + uptoBulkAll spare + 1
  | .agg parts => uptoBulkAll parts + 1
  | .iface _ d => uptoBulk d + 1
  | .map entries => uptoBulkEntries entries + 1
  | .held _ => 1
def uptoBulkAll {H : Type} : List (DataW H) → Nat
  | [] => 0
  | d :: r => uptoBulk d + uptoBulkAll r
def uptoBulkEntries {H : Type} : List (Lit × DataW H) → Nat
  | [] => 0
  | x :: r => uptoBulkEntry x + uptoBulkEntries r
def uptoBulkEntry {H : Type} : Lit × DataW H → Nat
  | (.string bytes, d) => bytes.length + uptoBulk d + 1
  | (_, d) => uptoBulk d + 1
 end
def uptoSmall : (H : Type) → List (DataW H) → Bool := fun _ ds => decide (uptoBulkAll ds ≤ 1048576)
def OpenSpec.upto (s : _root_.Go.ChangeSpec) : _root_.Go.OpenSpec := { _root_.Go.OpenSpec.ofChange s with cond := some uptoSmall }

/-- 'laws.FnHashLong', WHERE WHAT IT READS IS OF BULK AT MOST 1048576: true; the input reads as it did. -/
def fnHashLongUptoRow : OpenClaim := { program := "ytiihokjofmfdkaadoor", sum := "77cc6ba011534d2b0ee7bc9b47b744de88ac4526c9b0b9aacb696d89bbf689dc", func := "loop.example/pub-g03046/laws.FnHashLong", spec := "fnHashLong", named := ["loop.example/pub-g03046/pub/crypto/bcrypt.magicCipherData", "loop.example/pub-g03046/pub/crypto/blowfish.p", "loop.example/pub-g03046/pub/crypto/blowfish.s0", "loop.example/pub-g03046/pub/crypto/blowfish.s1", "loop.example/pub-g03046/pub/crypto/blowfish.s2", "loop.example/pub-g03046/pub/crypto/blowfish.s3"], apart := false, narrowed := true }
def FnHashLongUptoSaid : Prop := fnHashLongUptoRow.holds Tryd.pinned (OpenSpec.upto fnHashLongSpec)

end Rows
end Go.Proofs.YtiihokjofmfdkaaDoor
