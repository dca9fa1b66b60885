/-
  checkCost; what lies behind a '*hashed'.
-/
import Derived.Test.YthmjkcnmmlemgaaDoorCopy
namespace Go.Proofs.YthmjkcnmmlemgaaDoor
open Go.RowKit

set_option maxHeartbeats 400000 in
theorem checkCost_ok (k : Nat) (w : World) (h1 : 4 ≤ k) (h2 : k ≤ 31) :
    Calls Tryd.prog 28 #[.int .i64 (k : Nat)] w fun e w' => e = .returned .nilIface ∧ w = w' := by
  have d1 : decide ((k : Int) < 4) = false := by simp; omega
  have d2 : decide ((31 : Int) < (k : Int)) = false := by simp; omega
  go_enter Tryd.func28, Tryd.ntmps28
  go_wp2_with fail
  go_ret
  exact ⟨rfl, rfl⟩

/-- What lies behind a '*hashed'. -/
def HRow (w : World) (gp : Nat) (hsh slt : Value) (k maj mnr : Nat) : Prop := w.heap[gp]? = some (.cells #[hsh, slt, .int .i64 (k : Nat), .int .u8 (maj : Nat), .int .u8 (mnr : Nat)] 59 (0, 0))
theorem HRow.grown {w w' : World} {gp : Nat} {hsh slt : Value} {k maj mnr : Nat} {row : Option Nat} (h : HRow w gp hsh slt k maj mnr) (hg : w.grownBy w' row) (hr : some gp ≠ row) : HRow w' gp hsh slt k maj mnr :=
  (hg.block gp (row_lt h) hr).trans h
theorem infoHashed : (Tryd.prog.info? 59).bind (·.zero) = some (.agg #[.slice none 0 0, .slice none 0 0, .int .i64 0, .int .u8 0, .int .u8 0]) := by kernel_rfl
theorem infoHashed' : ∃ i, Tryd.prog.info? 59 = some i ∧ i.zero = some (.agg #[.slice none 0 0, .slice none 0 0, .int .i64 0, .int .u8 0, .int .u8 0]) := Option.bind_eq_some_iff.1 infoHashed

theorem hrow_laid {w w1 w3 : World} {gp k : Nat} (h : HRow w1 gp (.slice none 0 0) (.slice none 0 0) 0 0 0) (hg : w.grownBy w1 none) (hgp : w.heap.size ≤ gp)
    (h3 : (((w1.setCell ⟨gp, 3, none⟩ (.int .u8 50)).setCell ⟨gp, 4, none⟩ (.int .u8 97)).setCell ⟨gp, 2, none⟩ (.int .i64 (k : Nat))).grownBy w3 none) : HRow w3 gp (.slice none 0 0) (.slice none 0 0) k 50 97 ∧ w.grownBy w3 none := by
  have r := row_set (row_set (row_set h 3 (.int .u8 50)) 4 (.int .u8 97)) 2 (.int .i64 (k : Nat))
  refine ⟨(h3.block gp (row_lt r) (by simp)).trans r, ?_⟩
  exact grown_trans (grown_new (grown_new (grown_new hg (grown_setCell w1 gp 3 _) hgp) (grown_setCell _ gp 4 _) hgp) (grown_setCell _ gp 2 _) hgp) h3

/-- n bytes of a list lie there. -/
def Bts (w : World) (g n : Nat) (S : List Nat) : Prop := ∀ j, j < n → byteAt S j < 256 ∧ w.cell? ⟨g, 0 + j, none⟩ = some (.int .u8 (byteAt S j : Nat))
theorem Bts.grown {w w' : World} {g n : Nat} {S : List Nat} {row : Option Nat} (h : Bts w g n S) (hg : w.grownBy w' row) (hr : some g ≠ row) : Bts w' g n S :=
  fun j hj => ⟨(h j hj).1, (grown_cell hg (p := ⟨g, 0 + j, none⟩) (block_lt_of_cell (h j hj).2) hr).trans (h j hj).2⟩
theorem byteAt_append (xs ys : List Nat) (i : Nat) : byteAt (xs ++ ys) i = if i < xs.length then byteAt xs i else byteAt ys (i - xs.length) := by
  unfold byteAt
  simp only [List.getD_eq_getElem?_getD]
  split
  · rw [List.getElem?_append_left (by assumption)]
  · rw [List.getElem?_append_right (by omega)]
theorem own_of_brow {w : World} {base g n : Nat} {B : Nat → Nat} {xs : List Nat} (h : BRow w g n B) (hb : base ≤ g) (hl : xs.length = n) (hm : n ≤ maxLen) (e : ∀ j, j < n → B j = byteAt xs j) : Own w base (.slice (some ⟨g, 0, none⟩) n n) xs := by
  obtain ⟨cs, hr, hs, hc⟩ := h
  exact Own.mk hb hr hl (Nat.le_refl _) hm hs (fun j hj => by rw [← e j hj]; exact (hc j hj).2)
theorem brow_drew {w : World} {g n : Nat} {B : Nat → Nat} (h : BRow w g n B) : BRow w.drew g n B := h
theorem drew_grown {w w' : World} {row : Option Nat} (h : w.drew.grownBy w' row) : w.grownBy w' row := grown_trans (grown_drew _ _) h
theorem bts_drew {w0 w : World} {g n : Nat} {S : List Nat} (h : Bts w0 g n S) (hg : w0.grownBy w none) : Bts w.drew g n S := h.grown (grown_trans hg (grown_drew _ _)) (by simp)
theorem own_bts {w : World} {base g n cap : Nat} {xs : List Nat} (h : Own w base (.slice (some ⟨g, 0, none⟩) n cap) xs) (hl : xs.length = n) (hx : Bytes xs) : Bts w g n xs := by
  subst hl
  exact fun j hj => ⟨hx j, h.cells j hj⟩

end Go.Proofs.YthmjkcnmmlemgaaDoor
