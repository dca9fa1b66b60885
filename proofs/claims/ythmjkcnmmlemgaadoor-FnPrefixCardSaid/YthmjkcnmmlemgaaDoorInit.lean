/-
  initCipher: the tables become the program's first ones, whatever numbers of 32 bits these are.
-/
import Derived.Test.YthmjkcnmmlemgaaDoorCip
import Derived.Deep.MidRow
import Derived.Laws.CopyRow
namespace Go.Proofs.YthmjkcnmmlemgaaDoor
open Go.RowKit

section
variable {P : Program} {ops : Array Oper} {rest : List Oper} {op : Oper} {a : Act} {w : World} {Q : Exit → Act → World → Prop}
/-- An array is stored into the middle of a row that is known whole; the world behind it is a letter. -/
theorem wpList_store_row (hgd : op.guard = none) (ty : TypeId) (x y : Operand) (ho : op.op = .store ty x y) (g o : Nat) (cells : Array Value) (hx : a.eval x = .pointer (some ⟨g, o, none⟩)) (hy : a.eval y = .agg cells)
    (cur : Array Value) (t : TypeId) (hg : w.heap[g]? = some (.cells cur t (0, 0))) (hle : o + cells.size ≤ cur.size) (hi : (P.info? ty).map (·.size) = some cells.size) (h1 : ∀ v ∈ cells.toList, v.oneCell' = true)
    (h : ∀ w', Hid (w'.heap[g]? = some (.cells (cur.toList.take o ++ cells.toList ++ cur.toList.drop (o + cells.size)).toArray t (0, 0))) → w'.heap.size = w.heap.size → Hid (w.grownBy w' (some g)) → wpList P ops Q rest (a.put op.dst undef) w') :
    wpList P ops Q (op :: rest) a w := by
  refine wpList_plain hgd fun K hK => ?_
  have hst := run_storeCells_at (P := P) g o t cells.toList 0 cur w hg (by simpa using hle) h1
  simp only [Nat.add_zero, Array.length_toList] at hst
  have hrun : (storeVar ty ⟨g, o, none⟩ (.agg cells)).run P w = .ok () (w.setRow g (cur.toList.take o ++ cells.toList ++ cur.toList.drop (o + cells.size)).toArray) := by
    cases hq : P.info? ty with
    | none => simp [hq] at hi
    | some i =>
      have hs : cells.size = i.size := by simp [hq] at hi; omega
      simp [storeVar, sizeOf, typeInfo, hq, Value.cells, hs, -List.append_assoc] at hst ⊢
      simpa [hs] using hst
  unfold Oper.wp execOp
  simp only [ho, hx, hy, Instr.storeAt, Instr.sureAddr, Sem.run_bind, Sem.run_pure, Result.andThen_ok, hrun]
  exact hK _ _ (h _ (setRow_heap w g _ _ t _ hg) (by simp [World.setRow]) (grown_setRow w g _))
end

/-- The numbers t off .. t (off + n - 1) lie from a block's begin on. -/
def Nums (w : World) (g n off : Nat) (t : Nat → Nat) : Prop := ∀ i, i < n → t (off + i) < 4294967296 ∧ w.cell? ⟨g, i, none⟩ = some (.int .u32 (t (off + i) : Nat))
def numsOf (n off : Nat) (t : Nat → Nat) : List Value := (List.range n).map fun i => Value.int .u32 (t (off + i) : Nat)
theorem numsOf_length (n off : Nat) (t : Nat → Nat) : (numsOf n off t).length = n := by simp [numsOf]
theorem numsOf_at {n off : Nat} {t : Nat → Nat} {j : Nat} (h : j < n) : (numsOf n off t)[j]? = some (.int .u32 (t (off + j) : Nat)) := by simp [numsOf, h]
theorem numsOf_one {n off : Nat} {t : Nat → Nat} : ∀ v ∈ (numsOf n off t).toArray.toList, v.oneCell' = true := by
  intro v hv
  simp only [numsOf, List.mem_map] at hv
  obtain ⟨j, _, rfl⟩ := hv
  rfl
theorem Nums.range {w : World} {g n off : Nat} {t : Nat → Nat} (h : Nums w g n off t) : w.rangeAt g 0 (numsOf n off t) := by
  intro j v hv
  have hj : j < n := by
    have := (List.getElem?_eq_some_iff.1 hv).1
    rwa [numsOf_length] at this
  rw [numsOf_at hj] at hv
  injection hv with hv
  subst hv
  rw [Nat.zero_add]
  exact (h j hj).2
theorem Nums.grown {w w' : World} {g n off : Nat} {t : Nat → Nat} {row : Option Nat} (h : Nums w g n off t) (hg : w.grownBy w' row) (hr : some g ≠ row) : Nums w' g n off t :=
  fun i hi => ⟨(h i hi).1, (grown_cell hg (p := ⟨g, i, none⟩) (block_lt_of_cell (h i hi).2) hr).trans (h i hi).2⟩
/-- The cipher's block, whose first m numbers are t's. -/
def Pre (w : World) (g m : Nat) (t : Nat → Nat) : Prop := ∃ cur, w.heap[g]? = some (.cells cur 53 (0, 0)) ∧ cur.size = 1042 ∧ ∀ i, i < m → t i < 4294967296 ∧ cur[i]? = some (.int .u32 (t i : Nat))
theorem pre_store {w' : World} {g m n : Nat} {t : Nat → Nat} {cur : Array Value} (hsz : cur.size = 1042) (hp : ∀ i, i < m → t i < 4294967296 ∧ cur[i]? = some (.int .u32 (t i : Nat))) (hm : m + n ≤ 1042)
    (hb : ∀ i, i < n → t (m + i) < 4294967296)
    (hr : w'.heap[g]? = some (.cells (cur.toList.take m ++ (numsOf n m t).toArray.toList ++ cur.toList.drop (m + (numsOf n m t).toArray.size)).toArray 53 (0, 0))) : Pre w' g (m + n) t := by
  have hl : (cur.toList.take m).length = m := by simp; omega
  have hn := numsOf_length n m t
  refine ⟨_, hr, by simp [hn]; omega, fun i hi => ?_⟩
  simp only [List.getElem?_toArray]
  by_cases h0 : i < m
  · rw [List.append_assoc, List.getElem?_append_left (by omega), List.getElem?_take, if_pos h0]
    exact ⟨(hp i h0).1, by simpa using (hp i h0).2⟩
  · obtain ⟨j, rfl⟩ : ∃ j, i = m + j := ⟨i - m, by omega⟩
    have hj : j < n := by omega
    rw [List.append_assoc, List.getElem?_append_right (by omega), hl, List.getElem?_append_left (by simp [hn]; omega), Nat.add_sub_cancel_left]
    exact ⟨hb j hj, numsOf_at hj⟩
theorem Pre.cip {w : World} {g : Nat} {t : Nat → Nat} (h : Pre w g 1042 t) : Cip w g t := h

/-- The program's first tables. -/
def Glob (w : World) (t : Nat → Nat) : Prop :=
  Nums w 0 18 0 t ∧ Nums w 1 256 18 t ∧ Nums w 2 256 274 t ∧ Nums w 3 256 530 t ∧ Nums w 4 256 786 t
/-- The greatest of the blocks that hold them is below this. -/
def globTop : Nat := 1 + max 0 (max 1 (max 2 (max 3 4)))
theorem Glob.grown {w w' : World} {t : Nat → Nat} {row : Option Nat} (h : Glob w t) (hg : w.grownBy w' row) (hr : ∀ g, row = some g → globTop ≤ g) : Glob w' t := by
  have hne : ∀ b, b < globTop → some b ≠ row := fun b hb e => by have := hr b e.symm; omega
  obtain ⟨h1, h2, h3, h4, h5⟩ := h
  exact ⟨h1.grown hg (hne _ (by decide)), h2.grown hg (hne _ (by decide)), h3.grown hg (hne _ (by decide)), h4.grown hg (hne _ (by decide)), h5.grown hg (hne _ (by decide))⟩
theorem Glob.below {w w' : World} {t : Nat → Nat} {B : Nat} (h : Glob w t) (hb : Below B w w') (hB : globTop ≤ B) : Glob w' t := by
  have one : ∀ {g n off : Nat}, g < globTop → Nums w g n off t → Nums w' g n off t := fun hg hn i hi => ⟨(hn i hi).1, (hb.cell (p := ⟨_, i, none⟩) (Nat.lt_of_lt_of_le hg hB)).trans (hn i hi).2⟩
  obtain ⟨h1, h2, h3, h4, h5⟩ := h
  exact ⟨one (by decide) h1, one (by decide) h2, one (by decide) h3, one (by decide) h4, one (by decide) h5⟩

set_option maxHeartbeats 1000000 in
set_option maxRecDepth 100000 in
theorem initCipher_any (gc : Nat) (t : Nat → Nat) (w : World) (hgc : globTop ≤ gc) (hg : Glob w t) (hp : Pre w gc 0 t) :
    Calls Tryd.prog 20 #[.pointer (some ⟨gc, 0, none⟩)] w fun e w' => e = .returned (.tuple #[]) ∧ Cip w' gc t ∧ w.grownBy w' (some gc) := by
  have HG := hid hg
  have HP := hid hp
  clear hg hp
  go_enter Tryd.func20, Tryd.ntmps20
  go_wp2_with (first
    | ((with_reducible refine atOp (o := ⟨some 3, _, _, _, _, _⟩) ?_); refine wpList_load_mid rfl 26 (.global 0) rfl 0 0 rfl (numsOf 18 0 t) _ HG.out.1.range Tryd.underlying26 rfl (by rw [numsOf_length]; kernel_rfl) ?_)
    | ((with_reducible refine atOp (o := ⟨none, .store _ (.tmp 5) _, _, _, _, _⟩) ?_); obtain ⟨cur0, hr0, hs0, hc0⟩ := HP.out; refine wpList_store_row rfl 26 (.tmp 5) (.tmp 3) rfl gc 0 (numsOf 18 0 t).toArray rfl rfl cur0 _ hr0 (by simp [numsOf_length]; omega) (by rw [List.size_toArray, numsOf_length]; kernel_rfl) numsOf_one ?_; intro w1 hr1 hz1 hg1; have P1 := hid (pre_store (n := 18) hs0 hc0 (by decide) (fun i hi => (HG.out.1 i hi).1) hr1.out); have G1 := hid (And.intro (HG.out.grown hg1.out (fun g e => by injection e with e; omega)) hg1.out); clear hr0 hs0 hc0 hr1 hz1 hg1)
    | ((with_reducible refine atOp (o := ⟨some 10, _, _, _, _, _⟩) ?_); refine wpList_load_mid rfl 27 (.global 1) rfl 1 0 rfl (numsOf 256 18 t) _ (Nums.range G1.out.1.2.1) Tryd.underlying27 rfl (by rw [numsOf_length]; kernel_rfl) ?_)
    | ((with_reducible refine atOp (o := ⟨some 11, _, _, _, _, _⟩) ?_); refine wpList_load_mid rfl 27 (.global 2) rfl 2 0 rfl (numsOf 256 274 t) _ (Nums.range G1.out.1.2.2.1) Tryd.underlying27 rfl (by rw [numsOf_length]; kernel_rfl) ?_)
    | ((with_reducible refine atOp (o := ⟨some 12, _, _, _, _, _⟩) ?_); refine wpList_load_mid rfl 27 (.global 3) rfl 3 0 rfl (numsOf 256 530 t) _ (Nums.range G1.out.1.2.2.2.1) Tryd.underlying27 rfl (by rw [numsOf_length]; kernel_rfl) ?_)
    | ((with_reducible refine atOp (o := ⟨some 13, _, _, _, _, _⟩) ?_); refine wpList_load_mid rfl 27 (.global 4) rfl 4 0 rfl (numsOf 256 786 t) _ (Nums.range G1.out.1.2.2.2.2) Tryd.underlying27 rfl (by rw [numsOf_length]; kernel_rfl) ?_)
    | ((with_reducible refine atOp (o := ⟨none, .store _ (.tmp 15) _, _, _, _, _⟩) ?_); obtain ⟨cur1, hr1, hs1, hc1⟩ := P1.out; refine wpList_store_row rfl 27 (.tmp 15) (.tmp 10) rfl gc 18 (numsOf 256 18 t).toArray rfl rfl cur1 _ hr1 (by simp [numsOf_length]; omega) (by rw [List.size_toArray, numsOf_length]; kernel_rfl) numsOf_one ?_; intro w2 hr2 hz2 hg2; have P2 := hid (pre_store (n := 256) hs1 hc1 (by decide) (fun i hi => (HG.out.2.1 i hi).1) hr2.out); have G2 := hid (And.intro (HG.out) (grown_trans G1.out.2 hg2.out)); clear hr1 hs1 hc1 hr2 hz2 hg2)
    | ((with_reducible refine atOp (o := ⟨none, .store _ (.tmp 17) _, _, _, _, _⟩) ?_); obtain ⟨cur2, hr2, hs2, hc2⟩ := P2.out; refine wpList_store_row rfl 27 (.tmp 17) (.tmp 11) rfl gc 274 (numsOf 256 274 t).toArray rfl rfl cur2 _ hr2 (by simp [numsOf_length]; omega) (by rw [List.size_toArray, numsOf_length]; kernel_rfl) numsOf_one ?_; intro w3 hr3 hz3 hg3; have P3 := hid (pre_store (n := 256) hs2 hc2 (by decide) (fun i hi => (HG.out.2.2.1 i hi).1) hr3.out); have G3 := hid (And.intro (HG.out) (grown_trans G2.out.2 hg3.out)); clear hr2 hs2 hc2 hr3 hz3 hg3)
    | ((with_reducible refine atOp (o := ⟨none, .store _ (.tmp 19) _, _, _, _, _⟩) ?_); obtain ⟨cur3, hr3, hs3, hc3⟩ := P3.out; refine wpList_store_row rfl 27 (.tmp 19) (.tmp 12) rfl gc 530 (numsOf 256 530 t).toArray rfl rfl cur3 _ hr3 (by simp [numsOf_length]; omega) (by rw [List.size_toArray, numsOf_length]; kernel_rfl) numsOf_one ?_; intro w4 hr4 hz4 hg4; have P4 := hid (pre_store (n := 256) hs3 hc3 (by decide) (fun i hi => (HG.out.2.2.2.1 i hi).1) hr4.out); have G4 := hid (And.intro (HG.out) (grown_trans G3.out.2 hg4.out)); clear hr3 hs3 hc3 hr4 hz4 hg4)
    | ((with_reducible refine atOp (o := ⟨none, .store _ (.tmp 21) _, _, _, _, _⟩) ?_); obtain ⟨cur4, hr4, hs4, hc4⟩ := P4.out; refine wpList_store_row rfl 27 (.tmp 21) (.tmp 13) rfl gc 786 (numsOf 256 786 t).toArray rfl rfl cur4 _ hr4 (by simp [numsOf_length]; omega) (by rw [List.size_toArray, numsOf_length]; kernel_rfl) numsOf_one ?_; intro w5 hr5 hz5 hg5; have P5 := hid (pre_store (n := 256) hs4 hc4 (by decide) (fun i hi => (HG.out.2.2.2.2 i hi).1) hr5.out); have G5 := hid (And.intro (HG.out) (grown_trans G4.out.2 hg5.out)); clear hr4 hs4 hc4 hr5 hz5 hg5))
  exact bodyPost_end (results_none rfl _ _ _) rfl ⟨rfl, Pre.cip P5.out, G5.out.2⟩
#print axioms initCipher_any
end Go.Proofs.YthmjkcnmmlemgaaDoor
