/-
  ZZFirst, ZZTables, stateOf, impl.First: the program's first tables as a State, whatever numbers of 32 bits these are; nothing that was there turns.
-/
import Derived.Test.YthmjkcnmmlemgaaDoorState
import Derived.Deep.RegionHeld
namespace Go.Proofs.YthmjkcnmmlemgaaDoor
open Go.RowKit

theorem fold_at (off : Nat) : ∀ (vs : List Value) (k : Nat) (cells : Array Value) (i : Nat),
    ((vs.zipIdx k).foldl (fun cs x => cs.setIfInBounds (off + x.2) x.1) cells)[i]? = if off + k ≤ i ∧ i < off + k + vs.length ∧ i < cells.size then vs[i - (off + k)]? else cells[i]?
  | [], k, cells, i => by simp; omega
  | v :: vs, k, cells, i => by
    rw [List.zipIdx_cons, List.foldl_cons, fold_at off vs (k + 1)]
    simp only [Array.size_setIfInBounds, Array.getElem?_setIfInBounds, List.length_cons]
    by_cases h1 : off + (k + 1) ≤ i ∧ i < off + (k + 1) + vs.length ∧ i < cells.size
    · rw [if_pos h1, if_pos (by omega), show i - (off + k) = (i - (off + (k + 1))) + 1 by omega, List.getElem?_cons_succ]
    · rw [if_neg h1]
      by_cases h2 : off + k = i
      · subst h2
        rw [if_pos rfl]
        by_cases h3 : off + k < cells.size
        · rw [if_pos h3, if_pos (by omega)]
          simp
        · rw [if_neg h3, if_neg (by omega)]
          exact (Array.getElem?_eq_none (by omega)).symm
      · rw [if_neg h2, if_neg (by omega)]
theorem fold_size (off : Nat) : ∀ (vs : List (Value × Nat)) (cells : Array Value), (vs.foldl (fun cs x => cs.setIfInBounds (off + x.2) x.1) cells).size = cells.size
  | [], _ => rfl
  | v :: vs, cells => by rw [List.foldl_cons, fold_size off vs]; simp
/-- One part is laid in. -/
def lay (cells : Array Value) (off : Nat) (vs : Array Value) : Array Value := vs.zipIdx.foldl (fun cs x => cs.setIfInBounds (off + x.2) x.1) cells
theorem lay_size (cells : Array Value) (off : Nat) (vs : Array Value) : (lay cells off vs).size = cells.size := by
  unfold lay
  rw [← Array.foldl_toList]
  exact fold_size off _ _
theorem lay_at (cells : Array Value) (off : Nat) (vs : Array Value) (i : Nat) : (lay cells off vs)[i]? = if off ≤ i ∧ i < off + vs.size ∧ i < cells.size then vs[i - off]? else cells[i]? := by
  unfold lay
  have h := fold_at off vs.toList 0 cells i
  simp only [Nat.add_zero, Array.length_toList, Array.getElem?_toList] at h
  rw [← h, ← Array.foldl_toList]
  simp [Array.toList_zipIdx]

/-- The first m of the numbers are laid. -/
def Lead (cs : Array Value) (n m off : Nat) (t : Nat → Nat) : Prop := cs.size = n ∧ ∀ i, i < m → t (off + i) < 4294967296 ∧ cs[i]? = some (.int .u32 (t (off + i) : Nat))
theorem Lead.lay {cells vs : Array Value} {n m off k : Nat} {t : Nat → Nat} (h : Lead cells n m off t) (hv : Arr vs k (off + m) t) (hn : m + k ≤ n) : Lead (lay cells m vs) n (m + k) off t := by
  refine ⟨by rw [lay_size, h.1], fun i hi => ?_⟩
  rw [lay_at, hv.1, h.1]
  by_cases h1 : i < m
  · rw [if_neg (by omega)]
    exact h.2 i h1
  · rw [if_pos (by omega)]
    have e := hv.2 (i - m) (by omega)
    rw [show off + m + (i - m) = off + i by omega] at e
    exact e

theorem fill_step {place : Nat → Option (Nat × Nat)} {cells cs : Array Value} {i off n : Nat} {rest : List (Nat × Value)} (hp : place i = some (off, n)) (hv : cs.size = n) (hle : off + n ≤ cells.size) :
    Instr.fill place cells ((i, .agg cs) :: rest) = Instr.fill place (lay cells off cs) rest := by
  subst hv
  simp [Instr.fill, lay, hp, Value.cells]
  intro h
  omega
theorem fill_end {place : Nat → Option (Nat × Nat)} {cells : Array Value} : Instr.fill place cells [] = some cells := by simp [Instr.fill]

theorem infoFour : (Tryd.prog.info? 28).bind (fun i => i.zero.map (fun z => z.cells.size)) = some 1024 := by kernel_rfl
theorem infoRow : (Tryd.prog.info? 27).map (·.size) = some 256 := by kernel_rfl
theorem built_four {a b c d : Array Value} {t : Nat → Nat} (ha : Arr a 256 18 t) (hb : Arr b 256 274 t) (hc : Arr c 256 530 t) (hd : Arr d 256 786 t) :
    ∃ cs, Tryd.prog.built 28 [(0, .agg a), (1, .agg b), (2, .agg c), (3, .agg d)] = some cs ∧ Arr cs 1024 18 t := by
  obtain ⟨i, hi, h⟩ := Option.bind_eq_some_iff.1 infoFour
  obtain ⟨z, hz, h2⟩ := Option.map_eq_some_iff.1 h
  obtain ⟨ie, hie, hes⟩ := Option.map_eq_some_iff.1 infoRow
  have h0 : Lead z.cells 1024 0 18 t := ⟨h2, fun i hi => by omega⟩
  have h1 := h0.lay ha (by decide)
  have h2' := h1.lay hb (by decide)
  have h3 := h2'.lay hc (by decide)
  have h4 := h3.lay hd (by decide)
  refine ⟨_, ?_, h4⟩
  unfold Program.built
  rw [hi, Tryd.underlying28]
  simp only [hz, hie, hes]
  rw [fill_step (off := 0) (n := 256) rfl ha.1 (by rw [h2]; decide), fill_step (off := 0 + 256) (n := 256) rfl hb.1 (by rw [h1.1]; decide), fill_step (off := 0 + 256 + 256) (n := 256) rfl hc.1 (by rw [h2'.1]; decide), fill_step (off := 0 + 256 + 256 + 256) (n := 256) rfl hd.1 (by rw [h3.1]; decide), fill_end]
theorem built_state {a b : Array Value} {t : Nat → Nat} (ha : Arr a 18 0 t) (hb : Arr b 1024 18 t) :
    ∃ cs, Tryd.prog.built 30 [(0, .agg a), (1, .agg b)] = some cs ∧ Arr cs 1042 0 t := by
  obtain ⟨i, hi, h⟩ := Option.bind_eq_some_iff.1 infoState
  obtain ⟨z, hz, h2⟩ := Option.map_eq_some_iff.1 h
  have h0 : Lead z.cells 1042 0 0 t := ⟨h2, fun i hi => by omega⟩
  have h1 := h0.lay ha (by decide)
  have h2' := h1.lay hb (by decide)
  refine ⟨_, ?_, h2'⟩
  have hp : ∃ d, Tryd.prog.underlying 30 = some d := ⟨_, Tryd.underlying30⟩
  unfold Program.built
  rw [hi, Tryd.underlying30]
  have e1 : (Tryd.prog.info? 26).map (·.size) = some 18 := by kernel_rfl
  have e2 : (Tryd.prog.info? 28).map (·.size) = some 1024 := by kernel_rfl
  obtain ⟨ip, hip, hps⟩ := Option.map_eq_some_iff.1 e1
  obtain ⟨iq, hiq, hqs⟩ := Option.map_eq_some_iff.1 e2
  simp only [hz, List.mapM_cons, List.mapM_nil, hip, hiq, hps, hqs, Option.map_some]
  show Instr.fill _ _ _ = _
  rw [fill_step (off := 0) (n := 18) rfl ha.1 (by rw [h2]; decide), fill_step (off := 0 + 18) (n := 1024) rfl hb.1 (by rw [h1.1]; decide), fill_end]

theorem results_cell2 {fn : Func} {p q : Tmp} {t u : TypeId} (h : fn.results = #[.cell p t, .cell q u]) (tmps : Array Value) (P : Program) (w : World) :
    (results fn tmps).run P w =
      ((asAddr (tmps.getD p undef)).run P w).andThen fun a w₁ => ((loadVar t a).run P w₁).andThen fun v w₂ => ((asAddr (tmps.getD q undef)).run P w₂).andThen fun b w₃ => ((loadVar u b).run P w₃).andThen fun v' w₄ => .ok (.tuple #[v, v']) w₄ := by
  simp only [results, h]
  simp [Sem.run_bind, Result.andThen]

theorem infoP : (Tryd.prog.info? 26).bind (fun i => i.zero.map (fun z => z.cells.size)) = some 18 := by kernel_rfl
theorem sizeP : (Tryd.prog.info? 26).map (·.size) = some 18 := by kernel_rfl
theorem sizeFour : (Tryd.prog.info? 28).map (·.size) = some 1024 := by kernel_rfl
theorem Cip.range {w : World} {gc : Nat} {t : Nat → Nat} (h : Cip w gc t) (n off : Nat) (hn : off + n ≤ 1042) : w.rangeAt gc off (numsOf n off t) := by
  intro j v hv
  have hj : j < n := by
    have := (List.getElem?_eq_some_iff.1 hv).1
    rwa [numsOf_length] at this
  rw [numsOf_at hj] at hv
  injection hv with hv
  subst hv
  exact h.cell (by omega)
/-- A row of n cells. -/
def RowN (w : World) (g : Nat) (T : TypeId) (n : Nat) : Prop := ∃ cs : Array Value, w.heap[g]? = some (.cells cs T (0, 0)) ∧ cs.size = n
theorem yieldsIf_build {P : Program} {ops : Array Oper} {S : World → Prop} {op : Oper} {a : Act} (hw : Region.wanted op (yielded ops a.tmps) = true) (t : TypeId) (parts : Array (Nat × Operand)) (ho : op.op = .build t parts)
    (l : List (Nat × Value)) (hl : (parts.map fun (i, x) => (i, a.eval x)).toList = l) (cells : Array Value) (hc : P.built t l = some cells) : YieldsIf P ops S op (.agg cells) a :=
  .inl ⟨hw, fun w _ => by
    subst hl
    unfold execOp
    simp only [ho, Sem.run_bind, run_build w t _ cells hc, Result.andThen_ok]
    rfl⟩

theorem results_rows2 {P : Program} {fn : Func} {p q : Tmp} {t u : TypeId} {a b : Addr} {v v' : Value} {w : World} (h : fn.results = #[.cell p t, .cell q u]) (tmps : Array Value) (hp : tmps.getD p undef = .pointer (some a)) (lp : (loadVar t a).run P w = .ok v w)
    (hq : tmps.getD q undef = .pointer (some b)) (lq : (loadVar u b).run P w = .ok v' w) : (results fn tmps).run P w = .ok (.tuple #[v, v']) w := by
  rw [results_cell2 h, hp, hq]
  simp [asAddr, lp, lq, Result.andThen]
def TabPost (t : Nat → Nat) (w : World) (e : Ending) (w' : World) : Prop := ∃ a b, e = .returned (.tuple #[.agg a, .agg b]) ∧ Arr a 18 0 t ∧ Arr b 1024 18 t ∧ Below w.heap.size w w'

set_option maxHeartbeats 4000000 in
set_option maxRecDepth 100000 in
theorem zzTables_any (gc : Nat) (t : Nat → Nat) (w : World) (hc : Cip w gc t) :
    Calls Tryd.prog 19 #[.pointer (some ⟨gc, 0, none⟩)] w (TabPost t w) := by
  obtain ⟨i1, hi1, h1⟩ := Option.bind_eq_some_iff.1 infoP
  obtain ⟨z1, hz1, h2⟩ := Option.map_eq_some_iff.1 h1
  obtain ⟨i2, hi2, h3⟩ := Option.bind_eq_some_iff.1 infoFour
  obtain ⟨z2, hz2, h4⟩ := Option.map_eq_some_iff.1 h3
  clear h1 h3
  have HC := hid hc
  have hin := hc.in
  clear hc
  go_enter Tryd.func19, Tryd.ntmps19
  go_wp2_with (first
    | ((with_reducible refine atOp (o := ⟨some 2, _, _, _, _, _⟩) ?_); refine wpList_alloc_row rfl 26 rfl i1 hi1 z1 hz1 _ rfl ?_; intro w1 hr1 hs1 hg1)
    | ((with_reducible refine atOp (o := ⟨some 3, _, _, _, _, _⟩) ?_); refine wpList_alloc_row rfl 28 rfl i2 hi2 z2 hz2 _ rfl ?_; intro w2 hr2 hs2 hg2))
  have HC2 := hid ((HC.out.grown hg1.out (by simp)).grown hg2.out (by simp) : Cip w2 gc t)
  have ha1 := numsOf_arr (n := 256) (off := 18) (t := t) (fun i hi => HC.out.lt (by omega))
  have ha2 := numsOf_arr (n := 256) (off := 274) (t := t) (fun i hi => HC.out.lt (by omega))
  have ha3 := numsOf_arr (n := 256) (off := 530) (t := t) (fun i hi => HC.out.lt (by omega))
  have ha4 := numsOf_arr (n := 256) (off := 786) (t := t) (fun i hi => HC.out.lt (by omega))
  have ha0 := numsOf_arr (n := 18) (off := 0) (t := t) (fun i hi => HC.out.lt (by omega))
  obtain ⟨b, hb, hB⟩ := built_four ha1 ha2 ha3 ha4
  have R2 : RowN w2 w.heap.size 26 18 := ⟨_, (hg2.out.block _ hs1 (by simp)).trans hr1.out, h2⟩
  have R3 : RowN w2 w1.heap.size 28 1024 := ⟨_, hr2.out, h4⟩
  clear ha1 ha2 ha3 ha4 hr1 hr2 h2 h4
  have HL := hid (And.intro ha0 hB)
  have HG := hid (And.intro (Nat.lt_trans hs1 hs2) (And.intro hs1 (grown_trans hg1.out hg2.out)))
  clear ha0 hB hg1 hg2
  refine wp_region_held_drew (S := fun w' => Cip w' gc t ∧ RowN w' w.heap.size 26 18 ∧ RowN w' w1.heap.size 28 1024) (by kernel_rfl) ⟨HC2.out, R2, R3⟩ (fun hHeld => ?_)
  clear R2 R3
  refine wpAnyH_take (i := 0) (oi := ⟨some 4, .move (.tmp 0), _, _, _, _⟩) (v := .pointer (some ⟨gc, 0, none⟩)) rfl (by kernel_rfl) (by kernel_rfl) (by kernel_rfl) (fun _ _ _ h => h) (Or.inl ⟨by rfl, fun w hw => by go_simp⟩) hHeld ?_
  simp only [Act.put, List.setIfInBounds_toArray, List.set_cons_zero, List.set_cons_succ]
  refine wpAnyH_take (i := 1) (oi := ⟨some 5, .nilCheck (.tmp 4), _, _, _, _⟩) (v := .pointer (some ⟨gc, 0, none⟩)) rfl (by kernel_rfl) (by kernel_rfl) (by kernel_rfl) (fun _ _ _ h => h) (Or.inl ⟨by rfl, fun w hw => by go_simp⟩) hHeld ?_
  simp only [Act.put, List.setIfInBounds_toArray, List.set_cons_zero, List.set_cons_succ]
  refine wpAnyH_take (i := 2) (oi := ⟨some 6, .fieldAddr 53 (.tmp 5) 0, _, _, _, _⟩) (v := .pointer (some ⟨gc, 0, none⟩)) rfl (by kernel_rfl) (by kernel_rfl) (by kernel_rfl) (fun _ _ _ h => h) (Or.inl ⟨by rfl, fun w hw => by go_simp⟩) hHeld ?_
  simp only [Act.put, List.setIfInBounds_toArray, List.set_cons_zero, List.set_cons_succ]
  refine wpAnyH_take (i := 3) (oi := ⟨some 7, .load 26 (.tmp 6), _, _, _, _⟩) (v := .agg (numsOf 18 0 t).toArray) rfl (by kernel_rfl) (by kernel_rfl) (by kernel_rfl) (fun _ _ _ h => h) (yieldsIf_load_mid (by rfl) 26 (.tmp 6) rfl gc 0 rfl (numsOf 18 0 t) _ (fun w hw => Cip.range hw.1 18 0 (by decide)) Tryd.underlying26 rfl (by rw [numsOf_length]; exact sizeP)) hHeld ?_
  simp only [Act.put, List.setIfInBounds_toArray, List.set_cons_zero, List.set_cons_succ]
  refine wpAnyH_take (i := 4) (oi := ⟨some 8, .move (.tmp 0), _, _, _, _⟩) (v := .pointer (some ⟨gc, 0, none⟩)) rfl (by kernel_rfl) (by kernel_rfl) (by kernel_rfl) (fun _ _ _ h => h) (Or.inl ⟨by rfl, fun w hw => by go_simp⟩) hHeld ?_
  simp only [Act.put, List.setIfInBounds_toArray, List.set_cons_zero, List.set_cons_succ]
  refine wpAnyH_take (i := 5) (oi := ⟨some 9, .nilCheck (.tmp 8), _, _, _, _⟩) (v := .pointer (some ⟨gc, 0, none⟩)) rfl (by kernel_rfl) (by kernel_rfl) (by kernel_rfl) (fun _ _ _ h => h) (Or.inl ⟨by rfl, fun w hw => by go_simp⟩) hHeld ?_
  simp only [Act.put, List.setIfInBounds_toArray, List.set_cons_zero, List.set_cons_succ]
  refine wpAnyH_take (i := 6) (oi := ⟨some 10, .fieldAddr 53 (.tmp 9) 1, _, _, _, _⟩) (v := .pointer (some ⟨gc, 18, none⟩)) rfl (by kernel_rfl) (by kernel_rfl) (by kernel_rfl) (fun _ _ _ h => h) (Or.inl ⟨by rfl, fun w hw => by go_simp⟩) hHeld ?_
  simp only [Act.put, List.setIfInBounds_toArray, List.set_cons_zero, List.set_cons_succ]
  refine wpAnyH_take (i := 7) (oi := ⟨some 11, .load 27 (.tmp 10), _, _, _, _⟩) (v := .agg (numsOf 256 18 t).toArray) rfl (by kernel_rfl) (by kernel_rfl) (by kernel_rfl) (fun _ _ _ h => h) (yieldsIf_load_mid (by rfl) 27 (.tmp 10) rfl gc 18 rfl (numsOf 256 18 t) _ (fun w hw => Cip.range hw.1 256 18 (by decide)) Tryd.underlying27 rfl (by rw [numsOf_length]; exact infoRow)) hHeld ?_
  simp only [Act.put, List.setIfInBounds_toArray, List.set_cons_zero, List.set_cons_succ]
  refine wpAnyH_take (i := 8) (oi := ⟨some 12, .move (.tmp 0), _, _, _, _⟩) (v := .pointer (some ⟨gc, 0, none⟩)) rfl (by kernel_rfl) (by kernel_rfl) (by kernel_rfl) (fun _ _ _ h => h) (Or.inl ⟨by rfl, fun w hw => by go_simp⟩) hHeld ?_
  simp only [Act.put, List.setIfInBounds_toArray, List.set_cons_zero, List.set_cons_succ]
  refine wpAnyH_take (i := 9) (oi := ⟨some 13, .nilCheck (.tmp 12), _, _, _, _⟩) (v := .pointer (some ⟨gc, 0, none⟩)) rfl (by kernel_rfl) (by kernel_rfl) (by kernel_rfl) (fun _ _ _ h => h) (Or.inl ⟨by rfl, fun w hw => by go_simp⟩) hHeld ?_
  simp only [Act.put, List.setIfInBounds_toArray, List.set_cons_zero, List.set_cons_succ]
  refine wpAnyH_take (i := 10) (oi := ⟨some 14, .fieldAddr 53 (.tmp 13) 2, _, _, _, _⟩) (v := .pointer (some ⟨gc, 274, none⟩)) rfl (by kernel_rfl) (by kernel_rfl) (by kernel_rfl) (fun _ _ _ h => h) (Or.inl ⟨by rfl, fun w hw => by go_simp⟩) hHeld ?_
  simp only [Act.put, List.setIfInBounds_toArray, List.set_cons_zero, List.set_cons_succ]
  refine wpAnyH_take (i := 11) (oi := ⟨some 15, .load 27 (.tmp 14), _, _, _, _⟩) (v := .agg (numsOf 256 274 t).toArray) rfl (by kernel_rfl) (by kernel_rfl) (by kernel_rfl) (fun _ _ _ h => h) (yieldsIf_load_mid (by rfl) 27 (.tmp 14) rfl gc 274 rfl (numsOf 256 274 t) _ (fun w hw => Cip.range hw.1 256 274 (by decide)) Tryd.underlying27 rfl (by rw [numsOf_length]; exact infoRow)) hHeld ?_
  simp only [Act.put, List.setIfInBounds_toArray, List.set_cons_zero, List.set_cons_succ]
  refine wpAnyH_take (i := 12) (oi := ⟨some 16, .move (.tmp 0), _, _, _, _⟩) (v := .pointer (some ⟨gc, 0, none⟩)) rfl (by kernel_rfl) (by kernel_rfl) (by kernel_rfl) (fun _ _ _ h => h) (Or.inl ⟨by rfl, fun w hw => by go_simp⟩) hHeld ?_
  simp only [Act.put, List.setIfInBounds_toArray, List.set_cons_zero, List.set_cons_succ]
  refine wpAnyH_take (i := 13) (oi := ⟨some 17, .nilCheck (.tmp 16), _, _, _, _⟩) (v := .pointer (some ⟨gc, 0, none⟩)) rfl (by kernel_rfl) (by kernel_rfl) (by kernel_rfl) (fun _ _ _ h => h) (Or.inl ⟨by rfl, fun w hw => by go_simp⟩) hHeld ?_
  simp only [Act.put, List.setIfInBounds_toArray, List.set_cons_zero, List.set_cons_succ]
  refine wpAnyH_take (i := 14) (oi := ⟨some 18, .fieldAddr 53 (.tmp 17) 3, _, _, _, _⟩) (v := .pointer (some ⟨gc, 530, none⟩)) rfl (by kernel_rfl) (by kernel_rfl) (by kernel_rfl) (fun _ _ _ h => h) (Or.inl ⟨by rfl, fun w hw => by go_simp⟩) hHeld ?_
  simp only [Act.put, List.setIfInBounds_toArray, List.set_cons_zero, List.set_cons_succ]
  refine wpAnyH_take (i := 15) (oi := ⟨some 19, .load 27 (.tmp 18), _, _, _, _⟩) (v := .agg (numsOf 256 530 t).toArray) rfl (by kernel_rfl) (by kernel_rfl) (by kernel_rfl) (fun _ _ _ h => h) (yieldsIf_load_mid (by rfl) 27 (.tmp 18) rfl gc 530 rfl (numsOf 256 530 t) _ (fun w hw => Cip.range hw.1 256 530 (by decide)) Tryd.underlying27 rfl (by rw [numsOf_length]; exact infoRow)) hHeld ?_
  simp only [Act.put, List.setIfInBounds_toArray, List.set_cons_zero, List.set_cons_succ]
  refine wpAnyH_take (i := 16) (oi := ⟨some 20, .move (.tmp 0), _, _, _, _⟩) (v := .pointer (some ⟨gc, 0, none⟩)) rfl (by kernel_rfl) (by kernel_rfl) (by kernel_rfl) (fun _ _ _ h => h) (Or.inl ⟨by rfl, fun w hw => by go_simp⟩) hHeld ?_
  simp only [Act.put, List.setIfInBounds_toArray, List.set_cons_zero, List.set_cons_succ]
  refine wpAnyH_take (i := 17) (oi := ⟨some 21, .nilCheck (.tmp 20), _, _, _, _⟩) (v := .pointer (some ⟨gc, 0, none⟩)) rfl (by kernel_rfl) (by kernel_rfl) (by kernel_rfl) (fun _ _ _ h => h) (Or.inl ⟨by rfl, fun w hw => by go_simp⟩) hHeld ?_
  simp only [Act.put, List.setIfInBounds_toArray, List.set_cons_zero, List.set_cons_succ]
  refine wpAnyH_take (i := 18) (oi := ⟨some 22, .fieldAddr 53 (.tmp 21) 4, _, _, _, _⟩) (v := .pointer (some ⟨gc, 786, none⟩)) rfl (by kernel_rfl) (by kernel_rfl) (by kernel_rfl) (fun _ _ _ h => h) (Or.inl ⟨by rfl, fun w hw => by go_simp⟩) hHeld ?_
  simp only [Act.put, List.setIfInBounds_toArray, List.set_cons_zero, List.set_cons_succ]
  refine wpAnyH_take (i := 19) (oi := ⟨some 23, .load 27 (.tmp 22), _, _, _, _⟩) (v := .agg (numsOf 256 786 t).toArray) rfl (by kernel_rfl) (by kernel_rfl) (by kernel_rfl) (fun _ _ _ h => h) (yieldsIf_load_mid (by rfl) 27 (.tmp 22) rfl gc 786 rfl (numsOf 256 786 t) _ (fun w hw => Cip.range hw.1 256 786 (by decide)) Tryd.underlying27 rfl (by rw [numsOf_length]; exact infoRow)) hHeld ?_
  simp only [Act.put, List.setIfInBounds_toArray, List.set_cons_zero, List.set_cons_succ]
  refine wpAnyH_take (i := 20) (oi := ⟨some 24, .build 28 #[(0, .tmp 11), (1, .tmp 15), (2, .tmp 19), (3, .tmp 23)], _, _, _, _⟩) (v := .agg b) rfl (by kernel_rfl) (by kernel_rfl) (by kernel_rfl) (fun _ _ _ h => h) (yieldsIf_build (by rfl) _ _ rfl _ (by simp [Act.eval]) b hb) hHeld ?_
  simp only [Act.put, List.setIfInBounds_toArray, List.set_cons_zero, List.set_cons_succ]
  have sz0 : (Tryd.prog.info? 26).map (·.size) = some (numsOf 18 0 t).toArray.size := by rw [HL.out.1.1]; exact sizeP
  have sz1 : (Tryd.prog.info? 28).map (·.size) = some b.size := by rw [HL.out.2.1]; exact sizeFour
  obtain ⟨C, ⟨old1, hr1, hn1⟩, ⟨old2, hr2, hn2⟩⟩ := hHeld
  have ne1 : w1.heap.size ≠ w.heap.size := by omega
  have ne2 : gc ≠ w.heap.size := by omega
  have ne3 : gc ≠ w1.heap.size := by omega
  have q1 := setRow_heap w2.drew w.heap.size old1 (numsOf 18 0 t).toArray _ _ hr1
  have q2 := (setRow_other w2.drew w.heap.size w1.heap.size (numsOf 18 0 t).toArray ne1).trans hr2
  have G1 := grown_setRow w2.drew w.heap.size (numsOf 18 0 t).toArray
  have C1 := C.grown G1 (by intro e; injection e with e; exact ne2 e)
  obtain ⟨w3, hw3⟩ : ∃ w3, w3 = w2.drew.setRow w.heap.size (numsOf 18 0 t).toArray := ⟨_, rfl⟩
  rw [← hw3] at q1 q2 G1 C1
  have q3 := setRow_heap w3 w1.heap.size old2 b _ _ q2
  have q4 := (setRow_other w3 w1.heap.size w.heap.size b (Ne.symm ne1)).trans q1
  have G2 := grown_setRow w3 w1.heap.size b
  have C2 := C1.grown G2 (by intro e; injection e with e; exact ne3 e)
  obtain ⟨w4, hw4⟩ : ∃ w4, w4 = w3.setRow w1.heap.size b := ⟨_, rfl⟩
  rw [← hw4] at q3 q4 G2 C2
  refine wpAnyH_ready (rs := [21]) (by kernel_rfl) (by simp) (AllReadyH.cons (o := ⟨none, .store 26 (.tmp 2) (.tmp 7), _, _, _, _⟩) rfl (fun K hK => ?_) AllReadyH.nil)
  rw [if_pos (by rfl)]
  refine wp_store_row 26 (.tmp 2) (.tmp 7) rfl w.heap.size (numsOf 18 0 t).toArray rfl rfl _ old1 hr1 sz0 (by rw [hn1, HL.out.1.1]) (by rw [Array.all_eq_true_iff_forall_mem]; intro v hv; exact HL.out.1.one v (by simpa using hv)) ?_
  rw [← hw3]
  refine hK.out _ _ ⟨C1, ⟨_, q1, HL.out.1.1⟩, ⟨_, q2, hn2⟩⟩ (fun hHeld => ?_)
  clear hK
  refine wpAnyH_ready (rs := [22]) (by kernel_rfl) (by simp) (AllReadyH.cons (o := ⟨none, .store 28 (.tmp 3) (.tmp 24), _, _, _, _⟩) rfl (fun K hK => ?_) AllReadyH.nil)
  rw [if_pos (by rfl)]
  refine wp_store_row 28 (.tmp 3) (.tmp 24) rfl w1.heap.size b rfl rfl _ old2 q2 sz1 (by rw [hn2, HL.out.2.1]) (by rw [Array.all_eq_true_iff_forall_mem]; intro v hv; exact HL.out.2.one v (by simpa using hv)) ?_
  rw [← hw4]
  refine hK.out _ _ ⟨C2, ⟨_, q4, HL.out.1.1⟩, ⟨_, q3, HL.out.2.1⟩⟩ (fun hHeld => ?_)
  clear hK
  refine wpAnyH_done (by kernel_rfl) ?_ _
  dsimp only [Act.put]
  have GA : w.grownBy w4 none := grown_new (grown_new (grown_trans HG.out.2.2 (grown_drew _ _)) G1 (Nat.le_refl _)) G2 (Nat.le_of_lt HG.out.2.1)
  clear q1 q2 G1 C1 G2 C2 hr1 hr2 hHeld C sz0 sz1 hw3 hw4 hb HC2 hi1 hz1 hi2 hz2
  go_wp2_with fail
  have lp : (loadVar 26 ⟨w.heap.size, 0, none⟩).run Tryd.prog w4 = .ok (.agg (numsOf 18 0 t).toArray) w4 := run_loadVar_row w4 _ _ _ _ _ _ q4 Tryd.underlying26 rfl (by rw [HL.out.1.1]; exact sizeP)
  have lq : (loadVar 28 ⟨w1.heap.size, 0, none⟩).run Tryd.prog w4 = .ok (.agg b) w4 := run_loadVar_row w4 _ _ _ _ _ _ q3 Tryd.underlying28 rfl (by rw [HL.out.2.1]; exact sizeFour)
  exact bodyPost_end (results_rows2 rfl _ rfl lp rfl lq) rfl ⟨_, _, rfl, HL.out.1, HL.out.2, below_of_grown GA (Nat.le_refl _) (by simp)⟩
#print axioms zzTables_any

theorem wpList_build_to {P : Program} {ops : Array Oper} {rest : List Oper} {o : Oper} {a : Act} {w : World} {Q : Exit → Act → World → Prop} (hg : o.guard = none) (t : TypeId) (parts : Array (Nat × Operand)) (ho : o.op = .build t parts)
    (l : List (Nat × Value)) (hl : (parts.map fun (i, x) => (i, a.eval x)).toList = l) (cells : Array Value) (hc : P.built t l = some cells) (h : wpList P ops Q rest (a.put o.dst (.agg cells)) w) : wpList P ops Q (o :: rest) a w := by
  subst hl
  refine Go.wpList_build hg t parts ho (by rw [hc]; rfl) ?_
  rw [hc]
  exact h
section
variable {P : Program} {ops : Array Oper} {rest : List Oper} {op : Oper} {a : Act} {w : World} {Q : Exit → Act → World → Prop}
/-- A whole row is stored; the world behind it is a letter. -/
theorem wpList_store_whole (hgd : op.guard = none) (ty : TypeId) (x y : Operand) (ho : op.op = .store ty x y) (g n : Nat) (cells : Array Value) (hx : a.eval x = .pointer (some ⟨g, 0, none⟩)) (hy : a.eval y = .agg cells)
    (T : TypeId) (hg : RowN w g T n) (hn : cells.size = n) (hi : (P.info? ty).map (·.size) = some n) (h1 : ∀ v ∈ cells.toList, v.oneCell' = true)
    (h : ∀ w', Hid (w'.heap[g]? = some (.cells cells T (0, 0))) → Hid (w'.heap.size = w.heap.size) → Hid (w.grownBy w' (some g)) → wpList P ops Q rest (a.put op.dst undef) w') :
    wpList P ops Q (op :: rest) a w := by
  subst hn
  obtain ⟨old, hr, hs⟩ := hg
  exact Go.wpList_store_row hgd ty x y ho g cells hx hy T old hr hi hs (by rw [Array.all_eq_true_iff_forall_mem]; intro v hv; exact h1 v (by simpa using hv))
    (h _ (setRow_heap w g _ _ T _ hr) (hid (by simp)) (grown_setRow w g _))
end
theorem RowN.grown {w w' : World} {g n : Nat} {T : TypeId} {row : Option Nat} (h : RowN w g T n) (hg : w.grownBy w' row) (hr : some g ≠ row) : RowN w' g T n := by
  obtain ⟨cs, h1, h2⟩ := h
  exact ⟨cs, (hg.block g (row_lt h1) hr).trans h1, h2⟩

set_option maxHeartbeats 4000000 in
set_option maxRecDepth 100000 in
theorem stateOf_any (gc : Nat) (t : Nat → Nat) (w : World) (hc : Cip w gc t) :
    Calls Tryd.prog 10 #[.pointer (some ⟨gc, 0, none⟩)] w (StaPost w) := by
  obtain ⟨i1, hi1, h1⟩ := Option.bind_eq_some_iff.1 infoP
  obtain ⟨z1, hz1, h2⟩ := Option.map_eq_some_iff.1 h1
  obtain ⟨i2, hi2, h3⟩ := Option.bind_eq_some_iff.1 infoFour
  obtain ⟨z2, hz2, h4⟩ := Option.map_eq_some_iff.1 h3
  clear h1 h3
  have H24 := hid (And.intro h2 h4)
  clear h2 h4
  have HC := hid hc
  have hin := hc.in
  clear hc
  go_enter Tryd.func10, Tryd.ntmps10
  go_wp2_with ((with_reducible refine atOp (o := ⟨some 2, _, _, _, _, _⟩) ?_); refine wpList_alloc_sta rfl rfl ?_; intro w1 hr1 hs1 hg1)
  refine Calls.mono (zzTables_any gc t w1 (HC.out.grown hg1.out (by simp))) ?_
  rintro e w2 ⟨pa, sa, rfl, ha, hb, hbel⟩
  have HA := hid (And.intro ha (And.intro hb hbel))
  have hs2 := hid hbel.size
  clear ha hb hbel
  obtain ⟨st, hst, hSt⟩ := built_state HA.out.1 HA.out.2.1
  have HS := hid (And.intro hst hSt)
  clear hst hSt
  go_wp2_with (first
    | ((with_reducible refine atOp (o := ⟨some 3, _, _, _, _, _⟩) ?_); refine wpList_alloc_row rfl 26 rfl i1 hi1 z1 hz1 _ rfl ?_; intro w3 hr3 hs3 hg3)
    | ((with_reducible refine atOp (o := ⟨some 4, _, _, _, _, _⟩) ?_); refine wpList_alloc_row rfl 28 rfl i2 hi2 z2 hz2 _ rfl ?_; intro w4 hr4 hs4 hg4)
    | ((with_reducible refine atOp (o := ⟨none, .store _ (.tmp 3) _, _, _, _, _⟩) ?_); refine wpList_store_whole rfl 26 (.tmp 3) (.tmp 8) rfl w2.heap.size 18 pa rfl rfl 26 (RowN.grown ⟨_, hr3.out, H24.out.1⟩ hg4.out (by simp)) HA.out.1.1 sizeP HA.out.1.one ?_; intro w5 hr5 hs5 hg5)
    | ((with_reducible refine atOp (o := ⟨none, .store _ (.tmp 4) _, _, _, _, _⟩) ?_); refine wpList_store_whole rfl 28 (.tmp 4) (.tmp 9) rfl w3.heap.size 1024 sa rfl rfl 28 (RowN.grown ⟨_, hr4.out, H24.out.2⟩ hg5.out (by intro e; injection e with e; omega)) HA.out.2.1.1 sizeFour HA.out.2.1.one ?_; intro w6 hr6 hs6 hg6)
    | ((with_reducible refine atOp (o := ⟨some 10, _, _, _, _, _⟩) ?_); refine wpList_load_row rfl 26 (.tmp 3) rfl w2.heap.size rfl _ pa _ _ ((hg6.out.block _ (row_lt hr5.out) (by intro e; injection e with e; omega)).trans hr5.out) Tryd.underlying26 rfl (by rw [HA.out.1.1]; exact sizeP) ?_)
    | ((with_reducible refine atOp (o := ⟨some 11, _, _, _, _, _⟩) ?_); refine wpList_load_row rfl 28 (.tmp 4) rfl w3.heap.size rfl _ sa _ _ hr6.out Tryd.underlying28 rfl (by rw [HA.out.2.1.1]; exact sizeFour) ?_)
    | ((with_reducible refine atOp (o := ⟨some 12, _, _, _, _, _⟩) ?_); refine wpList_build_to rfl 30 #[(0, .tmp 10), (1, .tmp 11)] rfl [(0, .agg pa), (1, .agg sa)] (by simp [Act.eval, Act.put]) st HS.out.1 ?_)
    | ((with_reducible refine atOp (o := ⟨none, .store _ (.tmp 2) _, _, _, _, _⟩) ?_); refine wpList_store_sta rfl (.tmp 2) (.tmp 12) rfl w.heap.size st rfl rfl t HS.out.2 (((((hr1.out.below HA.out.2.2 hs1).grown hg3.out (by simp)).grown hg4.out (by simp)).grown hg5.out (by have := hs2.out; intro e; injection e with e; omega)).grown hg6.out (by have := hs2.out; intro e; injection e with e; omega)) ?_; intro w7 hr7 hs7 hg7))
  refine bodyPost_sta rfl rfl rfl hr7.out ?_
  have s2 := hs2.out
  have g1 := below_of_grown hg1.out (Nat.le_refl _) (by simp)
  have g2 := g1.trans (HA.out.2.2.mono (Nat.le_of_lt hs1))
  have g3 := g2.grown hg3.out (by omega) (by simp)
  have g4 := g3.grown hg4.out (by omega) (by simp)
  have g5 := g4.grown hg5.out (by omega) (fun k e => by injection e with e; omega)
  have g6 := g5.grown hg6.out (by have := hs5.out; omega) (fun k e => by injection e with e; omega)
  exact g6.grown hg7.out (by have := hs5.out; have := hs6.out; omega) (fun k e => by injection e with e; omega)
#print axioms stateOf_any

theorem infoCip : (Tryd.prog.info? 53).bind (fun i => i.zero.map (fun z => z.cells.size)) = some 1042 := by kernel_rfl
def CipPost (w : World) (e : Ending) (w' : World) : Prop := ∃ g t, e = .returned (.pointer (some ⟨g, 0, none⟩)) ∧ Cip w' g t ∧ w.heap.size ≤ g ∧ Below w.heap.size w w'

set_option maxHeartbeats 4000000 in
set_option maxRecDepth 100000 in
theorem zzFirst_any (t : Nat → Nat) (w : World) (ht : globTop ≤ w.heap.size) (hG : Glob w t) :
    Calls Tryd.prog 11 #[] w (CipPost w) := by
  obtain ⟨i1, hi1, h1⟩ := Option.bind_eq_some_iff.1 infoCip
  obtain ⟨z1, hz1, h2⟩ := Option.map_eq_some_iff.1 h1
  clear h1
  have H2 := hid h2
  clear h2
  have HG := hid (And.intro hG ht)
  clear hG ht
  go_enter Tryd.func11, Tryd.ntmps11
  go_wp2_with ((with_reducible refine atOp (o := ⟨some 1, _, _, _, _, _⟩) ?_); refine wpList_alloc_row rfl 53 rfl i1 hi1 z1 hz1 _ rfl ?_; intro w1 hr1 hs1 hg1)
  refine Calls.mono (initCipher_any w.heap.size t w1 HG.out.2 (HG.out.1.grown hg1.out (fun g e => by cases e)) ⟨_, hr1.out, H2.out, fun i hi => by omega⟩) ?_
  rintro e w2 ⟨rfl, hc, hg2⟩
  have HC := hid (And.intro hc hg2)
  clear hc hg2
  go_wp2_with fail
  go_ret
  exact ⟨_, t, rfl, HC.out.1, Nat.le_refl _, (below_of_grown hg1.out (Nat.le_refl _) (by simp)).grown HC.out.2 (Nat.le_of_lt hs1) (fun k e => by injection e with e; omega)⟩
#print axioms zzFirst_any

set_option maxHeartbeats 4000000 in
set_option maxRecDepth 100000 in
theorem implFirst_any (t : Nat → Nat) (w : World) (ht : globTop ≤ w.heap.size) (hG : Glob w t) :
    Calls Tryd.prog 6 #[] w (StaPost w) := by
  have HG := hid (And.intro hG ht)
  clear hG ht
  go_enter Tryd.func6, Tryd.ntmps6
  go_wp2_with ((with_reducible refine atOp (o := ⟨some 0, _, _, _, _, _⟩) ?_); refine wpList_alloc_sta rfl rfl ?_; intro w1 hr1 hs1 hg1)
  refine Calls.mono (zzFirst_any t w1 (by have := HG.out.2; omega) (HG.out.1.grown hg1.out (fun g e => by cases e))) ?_
  rintro e w2 ⟨g, t2, rfl, hc, hge, hb2⟩
  have HC := hid (And.intro hc (And.intro hge hb2))
  clear hc hge hb2
  go_wp2_with fail
  refine Calls.mono (stateOf_any g t2 w2 HC.out.1) ?_
  rintro e w3 ⟨st, t3, rfl, hst, hb3⟩
  have HS := hid (And.intro hst hb3)
  have HB := hid (HC.out.2.2.trans (hb3.mono HC.out.2.2.size))
  clear hst hb3
  go_wp2_with ((with_reducible refine atOp (o := ⟨none, .store _ (.tmp 0) _, _, _, _, _⟩) ?_); refine wpList_store_sta rfl (.tmp 0) (.tmp 2) rfl w.heap.size st rfl rfl t3 HS.out.1 (hr1.out.below HB.out hs1) ?_; intro w4 hr4 hs4 hg4)
  refine bodyPost_sta rfl rfl rfl hr4.out ?_
  exact ((below_of_grown hg1.out (Nat.le_refl _) (by simp)).trans (HB.out.mono (Nat.le_of_lt hs1))).grown hg4.out (by have := HB.out.size; omega) (fun k e => by injection e with e; omega)
#print axioms implFirst_any
end Go.Proofs.YthmjkcnmmlemgaaDoor
