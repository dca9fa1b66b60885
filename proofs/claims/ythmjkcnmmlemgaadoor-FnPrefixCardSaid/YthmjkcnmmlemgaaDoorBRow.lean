/-
  A row of bytes, told by a function of places.
-/
import Derived.Test.YthmjkcnmmlemgaaDoorRow
import Derived.Test.YthmjkcnmmlemgaaDoorFish
namespace Go.Proofs.YthmjkcnmmlemgaaDoor
open Go.RowKit

/-- A row of n bytes. -/
def BRow (w : World) (g n : Nat) (B : Nat → Nat) : Prop := ∃ cs, w.heap[g]? = some (.cells cs 5 (0, 0)) ∧ cs.size = n ∧ ∀ i, i < n → B i < 256 ∧ cs[i]? = some (.int .u8 (B i : Nat))
theorem BRow.cell {w : World} {g n i : Nat} {B : Nat → Nat} (h : BRow w g n B) (hi : i < n) : w.cell? ⟨g, i, none⟩ = some (.int .u8 (B i : Nat)) := by
  obtain ⟨cs, hr, hs, hc⟩ := h
  exact (row_cell hr i).trans (hc i hi).2
theorem BRow.lt {w : World} {g n i : Nat} {B : Nat → Nat} (h : BRow w g n B) (hi : i < n) : B i < 256 := by
  obtain ⟨cs, hr, hs, hc⟩ := h
  exact (hc i hi).1
theorem BRow.free {w : World} {g n : Nat} {B : Nat → Nat} (h : BRow w g n B) (i : Nat) : w.frozen? ⟨g, i, none⟩ = false := by
  obtain ⟨cs, hr, hs, hc⟩ := h
  exact row_free hr i
theorem BRow.set {w : World} {g n i y : Nat} {B : Nat → Nat} (h : BRow w g n B) (hy : y < 256) : BRow (w.setCell ⟨g, i, none⟩ (.int .u8 (y : Nat))) g n (setT B i y) := by
  obtain ⟨cs, hr, hs, hc⟩ := h
  refine ⟨_, row_set hr i _, by simpa using hs, fun j hj => ?_⟩
  rw [Array.getElem?_setIfInBounds]
  by_cases e : j = i
  · subst e
    simp only [setT, if_true]
    rw [if_pos (by omega)]
    exact ⟨hy, rfl⟩
  · rw [if_neg (fun h => e h.symm)]
    simp only [setT, if_neg e]
    exact hc j hj
theorem BRow.setI {w : World} {g n i y : Nat} {B : Nat → Nat} {x : Int} (h : BRow w g n B) (e : x = (y : Int)) (hy : y < 256) : BRow (w.setCell ⟨g, i, none⟩ (.int .u8 x)) g n (setT B i y) := by
  subst e
  exact h.set hy
theorem BRow.grown {w w' : World} {g n : Nat} {B : Nat → Nat} {row : Option Nat} (h : BRow w g n B) (hg : w.grownBy w' row) (hr : some g ≠ row) : BRow w' g n B := by
  obtain ⟨cs, h1, h2, h3⟩ := h
  exact ⟨cs, (hg.block g (row_lt h1) hr).trans h1, h2, h3⟩
theorem BRow.drew {w : World} {g n : Nat} {B : Nat → Nat} (h : BRow w g n B) (k : Nat) : BRow (w.drewN k) g n B := h
theorem BRow.congr {w : World} {g n : Nat} {B C : Nat → Nat} (h : BRow w g n B) (e : ∀ i, i < n → B i = C i) : BRow w g n C := by
  obtain ⟨cs, h1, h2, h3⟩ := h
  exact ⟨cs, h1, h2, fun i hi => by rw [← e i hi]; exact h3 i hi⟩

end Go.Proofs.YthmjkcnmmlemgaaDoor
