/-
  A State as a value and in memory: boxed, loaded, stored, whatever numbers of 32 bits it holds.
-/
import Derived.Test.YthmjkcnmmlemgaaDoorInit
import Derived.Test.YthmjkcnmmlemgaaDoorSpecC
import Derived.Laws.Tables
import Derived.Laws.ResultCell
import Derived.StillTailTactics
namespace Go.Proofs.YthmjkcnmmlemgaaDoor
open Go.RowKit

/-- An array (or a struct) of n numbers, t off .. t (off + n - 1). -/
def Arr (cs : Array Value) (n off : Nat) (t : Nat → Nat) : Prop := cs.size = n ∧ ∀ i, i < n → t (off + i) < 4294967296 ∧ cs[i]? = some (.int .u32 (t (off + i) : Nat))
theorem Arr.one {cs : Array Value} {n off : Nat} {t : Nat → Nat} (h : Arr cs n off t) : ∀ v ∈ cs.toList, v.oneCell' = true := by
  intro v hv
  obtain ⟨i, hi, e⟩ := List.mem_iff_getElem.1 hv
  have h1 := (h.2 i (by have := h.1; simpa [this] using hi)).2
  rw [← Array.getElem?_toList, List.getElem?_eq_getElem hi, e] at h1
  injection h1 with h1
  rw [h1]; rfl
theorem numsOf_arr {n off : Nat} {t : Nat → Nat} (hb : ∀ i, i < n → t (off + i) < 4294967296) : Arr (numsOf n off t).toArray n off t :=
  ⟨by rw [List.size_toArray, numsOf_length], fun i hi => ⟨hb i hi, by simpa using numsOf_at hi⟩⟩
theorem Arr.eq {cs : Array Value} {n off : Nat} {t : Nat → Nat} (h : Arr cs n off t) : cs = (numsOf n off t).toArray := by
  apply Array.ext'
  apply List.ext_getElem?
  intro i
  rw [Array.getElem?_toList]
  rcases Nat.lt_or_ge i n with hi | hi
  · rw [(h.2 i hi).2, numsOf_at hi]
  · rw [Array.getElem?_eq_none (by rw [h.1]; exact hi), List.getElem?_eq_none (by rw [numsOf_length]; exact hi)]


theorem Arr.row {w : World} {g : Nat} {cs : Array Value} {t : Nat → Nat} (h : Arr cs 1042 0 t) (hr : w.heap[g]? = some (.cells cs 30 (0, 0))) : Sta w g t :=
  ⟨cs, hr, h.1, fun i hi => by have := h.2 i hi; simpa using this⟩
theorem Sta.arr {w : World} {g : Nat} {t : Nat → Nat} (h : Sta w g t) : ∃ cs, w.heap[g]? = some (.cells cs 30 (0, 0)) ∧ Arr cs 1042 0 t := by
  obtain ⟨cs, hr, hs, hc⟩ := h
  exact ⟨cs, hr, hs, fun i hi => by have := hc i hi; simpa using this⟩
/-- Room for a State. -/
def Room (w : World) (g : Nat) : Prop := ∃ cs : Array Value, w.heap[g]? = some (.cells cs 30 (0, 0)) ∧ cs.size = 1042
theorem Sta.room {w : World} {g : Nat} {t : Nat → Nat} (h : Sta w g t) : Room w g := by
  obtain ⟨cs, hr, hs, hc⟩ := h
  exact ⟨cs, hr, hs⟩
theorem Room.in {w : World} {g : Nat} (h : Room w g) : g < w.heap.size := by
  obtain ⟨cs, hr, hs⟩ := h
  exact row_lt hr
theorem Room.grown {w w' : World} {g : Nat} {row : Option Nat} (h : Room w g) (hg : w.grownBy w' row) (hr : some g ≠ row) : Room w' g := by
  obtain ⟨cs, h1, h2⟩ := h
  exact ⟨cs, (hg.block g (row_lt h1) hr).trans h1, h2⟩
theorem Room.below {w w' : World} {g B : Nat} (h : Room w g) (hg : Below B w w') (hr : g < B) : Room w' g := by
  obtain ⟨cs, h1, h2⟩ := h
  exact ⟨cs, (hg.block g hr).trans h1, h2⟩
theorem Sta.below {w w' : World} {g B : Nat} {t : Nat → Nat} (h : Sta w g t) (hg : Below B w w') (hr : g < B) : Sta w' g t := by
  obtain ⟨cs, h1, h2⟩ := h
  exact ⟨cs, (hg.block g hr).trans h1, h2⟩

theorem infoState : (Tryd.prog.info? 30).bind (fun i => i.zero.map (fun z => z.cells.size)) = some 1042 := by kernel_rfl
theorem sizeState : (Tryd.prog.info? 30).map (·.size) = some 1042 := by kernel_rfl

section
variable {ops : Array Oper} {rest : List Oper} {op : Oper} {a : Act} {w : World} {Q : Exit → Act → World → Prop}
/-- A State is boxed. -/
theorem wpList_box_sta (hgd : op.guard = none) (x : Operand) (ho : op.op = .box 30 x) (cs : Array Value) (hx : a.eval x = .agg cs) (t : Nat → Nat) (hc : Arr cs 1042 0 t)
    (h : ∀ w', Hid (Sta w' w.heap.size t) → w.heap.size < w'.heap.size → Hid (w.grownBy w' none) → wpList Tryd.prog ops Q rest (a.put op.dst (.pointer (some ⟨w.heap.size, 0, none⟩))) w') :
    wpList Tryd.prog ops Q (op :: rest) a w := by
  refine wpList_plain hgd fun K hK => ?_
  unfold Oper.wp execOp
  simp only [ho, hx, Value.cells, Sem.run_bind, Instr.box, newVar, newRow, run_newObj_alloc, Sem.run_pure, Result.andThen_ok]
  exact hK _ _ (h _ (hc.row (heap_alloc_new w _)) (by simp) (grown_alloc w none _))
/-- Room for a State is made. -/
theorem wpList_alloc_sta (hgd : op.guard = none) (ho : op.op = .alloc 30)
    (h : ∀ w', Hid (Room w' w.heap.size) → w.heap.size < w'.heap.size → Hid (w.grownBy w' none) → wpList Tryd.prog ops Q rest (a.put op.dst (.pointer (some ⟨w.heap.size, 0, none⟩))) w') :
    wpList Tryd.prog ops Q (op :: rest) a w := by
  obtain ⟨i, hi, h1⟩ := Option.bind_eq_some_iff.1 infoState
  obtain ⟨z, hz, h2⟩ := Option.map_eq_some_iff.1 h1
  exact wpList_alloc_row hgd _ ho i hi z hz _ rfl fun w' hr hs hg => h w' (hid ⟨_, hr.out, h2⟩) hs hg
/-- A whole State is loaded. -/
theorem wpList_load_sta (hgd : op.guard = none) (x : Operand) (ho : op.op = .load 30 x) (g : Nat) (hx : a.eval x = .pointer (some ⟨g, 0, none⟩)) (t : Nat → Nat) (hs : Sta w g t)
    (h : ∀ cs, Hid (Arr cs 1042 0 t) → wpList Tryd.prog ops Q rest (a.put op.dst (.agg cs)) w) :
    wpList Tryd.prog ops Q (op :: rest) a w := by
  obtain ⟨cs, hr, hc⟩ := hs.arr
  refine wpList_load_mid hgd _ x ho g 0 hx cs.toList _ (fun j v hv => ?_) Tryd.underlying30 rfl ?_ ?_
  · rw [Nat.zero_add, row_cell hr]
    simpa using hv
  · rw [Array.length_toList, hc.1]
    exact sizeState
  · exact h _ (hid hc)
/-- A whole State is stored. -/
theorem wpList_store_sta (hgd : op.guard = none) (x y : Operand) (ho : op.op = .store 30 x y) (g : Nat) (cs : Array Value) (hx : a.eval x = .pointer (some ⟨g, 0, none⟩)) (hy : a.eval y = .agg cs) (t : Nat → Nat) (hc : Arr cs 1042 0 t) (hm : Room w g)
    (h : ∀ w', Hid (Sta w' g t) → Hid (w'.heap.size = w.heap.size) → Hid (w.grownBy w' (some g)) → wpList Tryd.prog ops Q rest (a.put op.dst undef) w') :
    wpList Tryd.prog ops Q (op :: rest) a w := by
  obtain ⟨cur, hr, hs⟩ := hm
  refine _root_.Go.Proofs.YthmjkcnmmlemgaaDoor.wpList_store_row hgd _ x y ho g 0 cs hx hy cur _ hr (by rw [hs, hc.1]; decide) (by rw [hc.1]; exact sizeState) hc.one fun w' h1 h2 h3 => h w' (hid ?_) (hid h2) h3
  refine hc.row (h1.out.trans ?_)
  congr 2
  apply Array.ext'
  have : cur.toList.drop (0 + cs.size) = [] := List.drop_eq_nil_of_le (by simp [hs, hc.1])
  simp [hs, hc.1]
end

/-- The end of a function whose result is a State in memory. -/
theorem results_sta {fn : Func} {p : Tmp} (h : fn.results = #[.cell p 30]) (tmps : Array Value) {w : World} {g : Nat} {t : Nat → Nat} (hp : tmps.getD p undef = .pointer (some ⟨g, 0, none⟩)) (hs : Sta w g t) :
    ∃ cs, (results fn tmps).run Tryd.prog w = .ok (.agg cs) w ∧ Arr cs 1042 0 t := by
  obtain ⟨cs, hr, hc⟩ := hs.arr
  refine ⟨cs, ?_, hc⟩
  exact results_cell_row h tmps w g _ cs _ _ hp hr Tryd.underlying30 rfl (by rw [hc.1]; exact sizeState)
/-- What a call that gives a State leaves: the State; nothing that was there has turned. -/
def StaPost (w : World) (e : Ending) (w' : World) : Prop := ∃ cs t, e = .returned (.agg cs) ∧ Arr cs 1042 0 t ∧ Below w.heap.size w w'
theorem bodyPost_sta {fn : Func} {p : Tmp} {a : Act} {W w : World} {g : Nat} {t : Nat → Nat} (h : fn.results = #[.cell p 30]) (hp : a.tmps.getD p undef = .pointer (some ⟨g, 0, none⟩)) (hd : a.defers = []) (hs : Sta w g t) (hb : Below W.heap.size W w) :
    bodyPost Tryd.prog fn (StaPost W) .normal a w := by
  obtain ⟨cs, h1, h2⟩ := results_sta h a.tmps hp hs
  exact bodyPost_end h1 hd ⟨cs, t, rfl, h2, hb⟩
end Go.Proofs.YthmjkcnmmlemgaaDoor
