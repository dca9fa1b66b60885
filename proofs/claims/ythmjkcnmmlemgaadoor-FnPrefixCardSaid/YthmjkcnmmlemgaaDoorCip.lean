/-
  The tables of a Cipher, told by a function of places.
-/
import Derived.Test.YthmjkcnmmlemgaaDoorRow
import Derived.Test.YthmjkcnmmlemgaaDoorFish
namespace Go.Proofs.YthmjkcnmmlemgaaDoor
open Go.RowKit

/-- The cipher at block gc: 1042 numbers of 32 bits (p in 0 .. 17, s0 from 18 on, s1 from 274, s2 from 530, s3 from 786). -/
def Cip (w : World) (gc : Nat) (t : Nat → Nat) : Prop := ∃ cs, w.heap[gc]? = some (.cells cs 53 (0, 0)) ∧ cs.size = 1042 ∧ ∀ i, i < 1042 → t i < 4294967296 ∧ cs[i]? = some (.int .u32 (t i : Nat))
theorem Cip.cell {w : World} {gc : Nat} {t : Nat → Nat} (h : Cip w gc t) {i : Nat} (hi : i < 1042) : w.cell? ⟨gc, i, none⟩ = some (.int .u32 (t i : Nat)) := by
  obtain ⟨cs, hr, hs, hc⟩ := h
  exact (row_cell hr i).trans (hc i hi).2
theorem Cip.free {w : World} {gc : Nat} {t : Nat → Nat} (h : Cip w gc t) (i : Nat) : w.frozen? ⟨gc, i, none⟩ = false := by
  obtain ⟨cs, hr, hs, hc⟩ := h
  exact row_free hr i
theorem Cip.lt {w : World} {gc : Nat} {t : Nat → Nat} (h : Cip w gc t) {i : Nat} (hi : i < 1042) : t i < 4294967296 := by
  obtain ⟨cs, hr, hs, hc⟩ := h
  exact (hc i hi).1
theorem Cip.in {w : World} {gc : Nat} {t : Nat → Nat} (h : Cip w gc t) : gc < w.heap.size := by
  obtain ⟨cs, hr, hs, hc⟩ := h
  exact row_lt hr
theorem Cip.drew {w : World} {gc : Nat} {t : Nat → Nat} (h : Cip w gc t) (k : Nat) : Cip (w.drewN k) gc t := h
/-- One number is stored. -/
theorem Cip.set {w : World} {gc : Nat} {t : Nat → Nat} (h : Cip w gc t) (i x : Nat) (hx : x < 4294967296) : Cip (w.setCell ⟨gc, i, none⟩ (.int .u32 (x : Nat))) gc (setT t i x) := by
  obtain ⟨cs, hr, hs, hc⟩ := h
  refine ⟨_, row_set hr i _, by simpa using hs, fun j hj => ?_⟩
  rw [Array.getElem?_setIfInBounds]
  by_cases e : j = i
  · subst e
    simp only [setT, if_true]
    exact ⟨hx, by rw [if_pos (by omega)]⟩
  · rw [if_neg (fun h => e h.symm)]
    simp only [setT, if_neg e]
    exact hc j hj
theorem Cip.grown {w w' : World} {gc : Nat} {t : Nat → Nat} {row : Option Nat} (h : Cip w gc t) (hg : w.grownBy w' row) (hr : some gc ≠ row) : Cip w' gc t := by
  obtain ⟨cs, h1, h2, h3⟩ := h
  exact ⟨cs, (hg.block gc (row_lt h1) hr).trans h1, h2, h3⟩


end Go.Proofs.YthmjkcnmmlemgaaDoor
