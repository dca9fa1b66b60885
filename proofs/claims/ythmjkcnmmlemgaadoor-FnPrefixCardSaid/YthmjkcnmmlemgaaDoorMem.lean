/-
  Laws on memory over any program, for the walks of this seat: a new variable, a copy of a string into a row, an array read out of the middle of a row. No condition beyond what each states.
-/
import Derived.WalkKit
import Derived.Lib.BufferWrite
import Derived.Deep.Draws
namespace Go.Proofs.YthmjkcnmmlemgaaDoor
open Go.RowKit

theorem hid {p : Prop} (h : p) : Hid p := h
/-- 'x is w with new blocks, and with writes to block g alone'. -/
theorem grown_trans {a b c : World} {row : Option Nat} (h : a.grownBy b row) (k : b.grownBy c row) : a.grownBy c row :=
  ⟨k.os.trans h.os, k.tape.trans h.tape, k.output.trans h.output, Nat.le_trans h.size k.size, fun i hi hr => (k.block i (Nat.lt_of_lt_of_le hi h.size) hr).trans (h.block i hi hr)⟩
theorem grown_new {a b c : World} {g : Nat} (h : a.grownBy b none) (k : b.grownBy c (some g)) (hg : a.heap.size ≤ g) : a.grownBy c none :=
  ⟨k.os.trans h.os, k.tape.trans h.tape, k.output.trans h.output, Nat.le_trans h.size k.size, fun i hi hr => (k.block i (Nat.lt_of_lt_of_le hi h.size) (by intro e; injection e with e; omega)).trans (h.block i hi hr)⟩
theorem grown_setCell (w : World) (b i : Nat) (v : Value) : w.grownBy (w.setCell ⟨b, i, none⟩ v) (some b) :=
  ⟨rfl, rfl, rfl, by simp [World.setCell], fun k _ hk => Below.heap_setCell _ _ _ _ (fun e => hk (by simp [e]))⟩
theorem grown_setRow (w : World) (b : Nat) (cs : Array Value) : w.grownBy (w.setRow b cs) (some b) :=
  ⟨rfl, rfl, rfl, by simp [World.setRow], fun k _ hk => setRow_other _ _ _ _ (fun e => hk (by simp [e]))⟩
theorem grown_drewN (w : World) (row : Option Nat) (n : Nat) : w.grownBy (w.drewN n) row := ⟨rfl, rfl, rfl, Nat.le_refl _, fun _ _ _ => rfl⟩
theorem grown_drew (w : World) (row : Option Nat) : w.grownBy w.drew row := ⟨rfl, rfl, rfl, Nat.le_refl _, fun _ _ _ => rfl⟩
theorem grown_alloc (w : World) (row : Option Nat) (o : Obj) : w.grownBy (w.alloc o) row := ⟨rfl, rfl, rfl, by simp, fun k hk _ => Below.heap_alloc _ _ _ hk⟩
theorem grown_any {a b : World} (h : a.grownBy b none) (row : Option Nat) : a.grownBy b row := ⟨h.os, h.tape, h.output, h.size, fun k hk _ => h.block k hk (by simp)⟩
theorem grown_both {a b c : World} {g r : Nat} (h : a.grownBy b (some g)) (k : b.grownBy c (some r)) (hr : r = g ∨ a.heap.size ≤ r) : a.grownBy c (some g) :=
  ⟨k.os.trans h.os, k.tape.trans h.tape, k.output.trans h.output, Nat.le_trans h.size k.size, fun i hi hn => (k.block i (Nat.lt_of_lt_of_le hi h.size) (by
    intro e
    injection e with e
    rcases hr with hr | hr
    · exact hn (by rw [e, hr])
    · omega)).trans (h.block i hi hn)⟩
theorem grown_of_below {a w : World} (h : Below a.heap.size a w) (row : Option Nat) : a.grownBy w row := ⟨h.os, h.tape, h.output, h.size, fun i hi _ => h.block i hi⟩
theorem below_of_grown {a w : World} {row : Option Nat} (h : a.grownBy w row) {B : Nat} (hB : B ≤ a.heap.size) (hr : ∀ g, row = some g → B ≤ g) : Below B a w :=
  ⟨h.os, h.tape, h.output, h.size, fun k hk => h.block k (by omega) (fun e => by have := hr k e.symm; omega)⟩
theorem grown_cell {a w : World} {row : Option Nat} (h : a.grownBy w row) {p : Addr} (hp : p.block < a.heap.size) (hr : some p.block ≠ row) : w.cell? p = a.cell? p :=
  World.cell?_of_block (h.block p.block hp hr)
theorem grown_frozen {a w : World} {row : Option Nat} (h : a.grownBy w row) {p : Addr} (hp : p.block < a.heap.size) (hr : some p.block ≠ row) : w.frozen? p = a.frozen? p :=
  World.frozen?_of_block (h.block p.block hp hr)

section
variable {P : Program} {ops : Array Oper} {rest : List Oper} {o : Oper} {a : Act} {w : World} {Q : Exit → Act → World → Prop}

/-- A guard for a law at one operation: 'with_reducible refine atOp (o := ⟨some 18, _, _, _, _, _⟩) ?_' fails at once at any other operation. -/
theorem atOp (h : wpList P ops Q (o :: rest) a w) : wpList P ops Q (o :: rest) a w := h

/-- 'new(T)', 'var x T' whose address is taken: a new block with the zero value's cells; the world behind it is a letter. -/
theorem wpList_alloc_row (hgd : o.guard = none) (T : TypeId) (ho : o.op = .alloc T) (i : TypeInfo) (hi : P.info? T = some i) (z : Value) (hz : i.zero = some z) (cs : Array Value) (hcs : z.cells = cs)
    (h : ∀ w', Hid (w'.heap[w.heap.size]? = some (.cells cs T (0, 0))) → w.heap.size < w'.heap.size → Hid (w.grownBy w' none) → wpList P ops Q rest (a.put o.dst (.pointer (some ⟨w.heap.size, 0, none⟩))) w') :
    wpList P ops Q (o :: rest) a w := by
  subst hcs
  refine wpList_plain hgd fun K hK => ?_
  unfold Oper.wp
  have hrun : (Instr.alloc T true (.tuple #[])).run P w = .ok (.pointer (some ⟨w.heap.size, 0, none⟩)) (w.alloc (.cells z.cells T)) := by
    simp [Instr.alloc, zeroValue, typeInfo, hi, hz, newVar, newRow, newObj]
    rfl
  simp only [execOp, ho, Sem.run_bind, hrun, Result.andThen_ok]
  exact hK _ _ (h _ (heap_alloc_new w _) (by simp) (grown_alloc w none _))

/-- 'copy(dst, s)', s a string that fits, dst in a row that is known whole. -/
theorem wpList_copy_string (hgd : o.guard = none) (d s : Operand) (dT sT : TypeId) (ho : o.op = .call { callee := .builtin .copy, args := #[d, s], argTypes := #[dT, sT] })
    (elem : TypeId) (hu : P.underlying dT = some (.slice elem)) (hsz : (P.info? elem).map (·.size) = some 1)
    (g off dLen dCap : Nat) (str : ByteArray) (hd : a.eval d = .slice (some ⟨g, off, none⟩) dLen dCap) (hs : a.eval s = .string str)
    (cur : Array Value) (t : TypeId) (hg : w.heap[g]? = some (.cells cur t (0, 0))) (hle : str.size ≤ dLen) (hfit : off + str.size ≤ cur.size)
    (cs : Array Value) (hcs : (cur.toList.take off ++ Lib.byteCells str.data.toList ++ cur.toList.drop (off + str.size)).toArray = cs)
    (h : ∀ w', Hid (w'.heap[g]? = some (.cells cs t (0, 0))) → w'.heap.size = w.heap.size → Hid (w.grownBy w' (some g)) → wpList P ops Q rest (a.put o.dst (goInt str.size)) w') :
    wpList P ops Q (o :: rest) a w := by
  subst hcs
  refine wpList_plain hgd fun K hK => ?_
  have hrun := Lib.run_copy_row_string (P := P) w dT sT o.type elem g off dLen dCap str cur t hu hsz hg hle hfit
  unfold Oper.wp
  simp [execOp, ho, resolve, invoke, builtin, hd, hs, hrun, Result.andThen, -List.append_assoc]
  exact hK _ _ (h _ (setRow_heap w g _ _ t _ hg) (by simp) (grown_setRow w g _))

/-- A whole array of one-cell elements, read at a place whose cells are all there: what is read is some row of that many cells. -/
theorem wpList_load_cells (hgd : o.guard = none) (ty : TypeId) (x : Operand) (ho : o.op = .load ty x) (g off n : Nat) (hx : a.eval x = .pointer (some ⟨g, off, none⟩))
    (d : TypeDesc) (hu : P.underlying ty = some d) (hd : (match d with | .struct _ | .array _ _ => true | _ => false) = true) (hi : (P.info? ty).map (·.size) = some n)
    (f : Nat → Value) (hc : ∀ j, j < n → w.cell? ⟨g, off + j, none⟩ = some (f j))
    (h : ∀ v, wpList P ops Q rest (a.put o.dst v) w) : wpList P ops Q (o :: rest) a w := by
  refine wpList_plain hgd fun K hK => ?_
  have hl : (loadCells ⟨g, off, none⟩ n).run P w = .ok (((List.range n).map f).toArray) w := by
    have := run_loadCells_list (P := P) w ⟨g, off, none⟩ ((List.range n).map f) (fun j v hv => by
      have hj : j < n := by
        rcases Nat.lt_or_ge j n with hj | hj
        · exact hj
        · rw [List.getElem?_eq_none (by simpa using hj)] at hv; cases hv
      have hadd : (⟨g, off, none⟩ : Addr).add j = ⟨g, off + j, none⟩ := by unfold Addr.add; split <;> simp_all
      rw [hadd, hc j hj]
      simp [hj] at hv
      rw [hv])
    simpa using this
  cases hq : P.info? ty with
  | none => simp [hq] at hi
  | some i =>
    have hs : i.size = n := by simpa [hq] using hi
    have hagg : (isAgg ty).run P w = .ok true w := by
      unfold isAgg
      rw [Sem.run_bind, run_underlying hu w]
      cases d <;> simp_all
    have hrun : (loadVar ty ⟨g, off, none⟩).run P w = .ok (.agg ((List.range n).map f).toArray) w := by
      simp [loadVar, Sem.run_bind, hagg, sizeOf, typeInfo, hq, hs, hl]
    unfold Oper.wp execOp
    simp only [ho, hx, Instr.loadAt, Instr.sureAddr, Sem.run_bind, Sem.run_pure, Result.andThen_ok, hrun]
    exact hK _ _ (h _)
end

/-- What a row holds, cell by cell. -/
theorem row_cell {w : World} {g : Nat} {cs : Array Value} {t : TypeId} (h : w.heap[g]? = some (.cells cs t (0, 0))) (i : Nat) : w.cell? ⟨g, i, none⟩ = cs[i]? := cell_of_row w g i cs t (0, 0) h
theorem row_free {w : World} {g : Nat} {cs : Array Value} {t : TypeId} (h : w.heap[g]? = some (.cells cs t (0, 0))) (i : Nat) : w.frozen? ⟨g, i, none⟩ = false := frozen_of_row w g i cs t h
theorem row_lt {w : World} {g : Nat} {cs : Array Value} {t : TypeId} (h : w.heap[g]? = some (.cells cs t (0, 0))) : g < w.heap.size := lt_of_block h
theorem row_set {w : World} {g : Nat} {cs : Array Value} {t : TypeId} (h : w.heap[g]? = some (.cells cs t (0, 0))) (i : Nat) (v : Value) : (w.setCell ⟨g, i, none⟩ v).heap[g]? = some (.cells (cs.setIfInBounds i v) t (0, 0)) :=
  heap_setCell_same w g i cs t v h
theorem row_set_other {w : World} {g : Nat} {o : Option Obj} (h : w.heap[g]? = o) {p : Addr} (hp : g ≠ p.block) (v : Value) : (w.setCell p v).heap[g]? = o := (Below.heap_setCell w p v g hp).trans h

end Go.Proofs.YthmjkcnmmlemgaaDoor
