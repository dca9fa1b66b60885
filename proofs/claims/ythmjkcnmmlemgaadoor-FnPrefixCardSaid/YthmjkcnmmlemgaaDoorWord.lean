/-
  Four bytes as a number of 32 bits, in the walks' spelling.
-/
import Derived.Test.YthmjkcnmmlemgaaDoorKey
namespace Go.Proofs.YthmjkcnmmlemgaaDoor
open Go.RowKit

theorem or_lt32 {a b : Nat} (ha : a < 4294967296) (hb : b < 4294967296) : a ||| b < 4294967296 := Nat.or_lt_two_pow (n := 32) ha hb
set_option maxRecDepth 100000 in
theorem word4 (a b c d : Nat) (ha : a < 256) (hb : b < 256) (hc : c < 256) (hd : d < 256) :
    bits BinOp.or IntKind.u32 (bits BinOp.or IntKind.u32 (bits BinOp.or IntKind.u32 ((a : Int) * 16777216) ((b : Int) * 65536)) ((c : Int) * 256)) (d : Int) = ((a * 16777216 ||| b * 65536 ||| c * 256 ||| d : Nat) : Int) ∧
      a * 16777216 ||| b * 65536 ||| c * 256 ||| d < 4294967296 := by
  have l0 : a * 16777216 < 4294967296 := by clear hb hc hd; omega
  have l1 : b * 65536 < 4294967296 := by clear l0 ha hc hd; omega
  have l2 : c * 256 < 4294967296 := by clear l0 l1 ha hb hd; omega
  have e0 : ((a : Int) * 16777216) = ((a * 16777216 : Nat) : Int) := by omega
  have e1 : ((b : Int) * 65536) = ((b * 65536 : Nat) : Int) := by omega
  have e2 : ((c : Int) * 256) = ((c * 256 : Nat) : Int) := by omega
  have l01 := or_lt32 l0 l1
  have l012 := or_lt32 l01 l2
  exact ⟨by rw [e0, e1, e2, u32_or_nat _ _ l0 l1, u32_or_nat _ _ l01 l2, u32_or_nat _ _ l012 (by omega)], or_lt32 l012 (by omega)⟩

end Go.Proofs.YthmjkcnmmlemgaaDoor
