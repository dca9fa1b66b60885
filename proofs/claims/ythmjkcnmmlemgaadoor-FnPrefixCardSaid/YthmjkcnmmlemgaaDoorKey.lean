/-
  What a key is to the walks: bytes that are there; how a byte is taken into a number of 32 bits.
-/
import Derived.Test.YthmjkcnmmlemgaaDoorRow
import Derived.Test.YthmjkcnmmlemgaaDoorFish
namespace Go.Proofs.YthmjkcnmmlemgaaDoor
open Go.RowKit

theorem or_word (x y : Nat) (_hx : x < 4294967296) (hy : y < 256) : bits BinOp.or IntKind.u32 ((x : Int) * 256 % 4294967296) (y : Int) = (((x * 256 % 4294967296) ||| y : Nat) : Int) ∧ (x * 256 % 4294967296) ||| y < 4294967296 := by
  have e : ((x : Int) * 256 % 4294967296) = ((x * 256 % 4294967296 : Nat) : Int) := by omega
  have h1 : x * 256 % 4294967296 < 4294967296 := Nat.mod_lt _ (by decide)
  exact ⟨by rw [e, u32_or_nat _ _ h1 (by omega)], Nat.or_lt_two_pow (n := 32) h1 (by omega)⟩
theorem xor_word (x y : Nat) (hx : x < 4294967296) (hy : y < 4294967296) : bits BinOp.xor IntKind.u32 (x : Int) (y : Int) = ((x ^^^ y : Nat) : Int) := u32_xor_nat x y hx hy

/-- What a key is to the walks: bytes that are there. -/
def Key (w : World) (gk ok n : Nat) (ys : List Nat) : Prop := 0 < n ∧ n ≤ 1048576 ∧ Bytes ys ∧ ∀ i, i < n → w.cell? ⟨gk, ok + i, none⟩ = some (.int .u8 (byteAt ys i : Nat))
theorem Key.grown {w w' : World} {gk ok n : Nat} {ys : List Nat} {row : Option Nat} (h : Key w gk ok n ys) (hg : w.grownBy w' row) (hr : some gk ≠ row) : Key w' gk ok n ys :=
  ⟨h.1, h.2.1, h.2.2.1, fun i hi => (grown_cell hg (p := ⟨gk, ok + i, none⟩) (block_lt_of_cell (h.2.2.2 i hi)) hr).trans (h.2.2.2 i hi)⟩

/-- A number of a key has 32 bits. -/
theorem itW_num {ys : List Nat} {n : Nat} (hx : Bytes ys) : ∀ (k : Nat) (p : Nat × Nat), p.1 < 4294967296 → (itW ys n p k).1 < 4294967296
  | 0, _, h => h
  | k + 1, p, h => by
    simp only [itW, stepW]
    have hb := hx (itW ys n p k).2
    exact Nat.or_lt_two_pow (n := 32) (Nat.mod_lt _ (by decide)) (by omega)
theorem wdW_lt {ys : List Nat} {n : Nat} (hx : Bytes ys) (m : Nat) : wdW ys n m < 4294967296 := itW_num hx 4 (0, posW ys n m) (Nat.zero_lt_succ _)

end Go.Proofs.YthmjkcnmmlemgaaDoor
