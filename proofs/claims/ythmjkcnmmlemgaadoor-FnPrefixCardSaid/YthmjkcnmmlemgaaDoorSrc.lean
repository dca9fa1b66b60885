/-
  Slices of bytes as sources of 'append', whatever they are (nil, empty, bytes that lie there); 'append' onto a slice of the call's own; a slice of the call's own as a key.
-/
import Derived.Test.YthmjkcnmmlemgaaDoorArg
import Derived.Test.YthmjkcnmmlemgaaDoorKey
import Derived.Laws.AppendOwnNone
import Derived.ArgAppend
namespace Go.Proofs.YthmjkcnmmlemgaaDoor
open Go.RowKit

/-- A slice that can be read, its block below 'base': empty, or its bytes lie there. -/
def SrcB (base : Nat) (w : World) (a : Option Addr) (len : Nat) (xs : List Nat) : Prop :=
  xs.length = len ∧ (len = 0 ∨ ∃ b o, a = some ⟨b, o, none⟩ ∧ b < base ∧ Bytes xs ∧ ∀ j, j < len → w.cell? ⟨b, o + j, none⟩ = some (.int .u8 (byteAt xs j : Nat)))
theorem Src.srcB {w : World} {a : Option Addr} {len : Nat} {xs : List Nat} (h : Src w a len xs) : SrcB w.heap.size w a len xs := h
theorem SrcB.below {base B : Nat} {w w' : World} {a : Option Addr} {len : Nat} {xs : List Nat} (h : SrcB base w a len xs) (hb : Below B w w') (hB : base ≤ B) : SrcB base w' a len xs := by
  refine ⟨h.1, ?_⟩
  rcases h.2 with h0 | ⟨b, o, ha, hbl, hx, hs⟩
  · exact .inl h0
  · exact .inr ⟨b, o, ha, hbl, hx, fun j hj => (hb.cell (p := ⟨b, o + j, none⟩) (Nat.lt_of_lt_of_le hbl hB)).trans (hs j hj)⟩
theorem SrcB.mono {base B : Nat} {w : World} {a : Option Addr} {len : Nat} {xs : List Nat} (h : SrcB base w a len xs) (hB : base ≤ B) : SrcB B w a len xs := by
  refine ⟨h.1, ?_⟩
  rcases h.2 with h0 | ⟨b, o, ha, hbl, hx, hs⟩
  · exact .inl h0
  · exact .inr ⟨b, o, ha, Nat.lt_of_lt_of_le hbl hB, hx, hs⟩
theorem SrcB.bytes {base : Nat} {w : World} {a : Option Addr} {len : Nat} {xs : List Nat} (h : SrcB base w a len xs) : Bytes xs := by
  rcases h.2 with h0 | ⟨b, o, ha, hbl, hx, hs⟩
  · have := h.1
    obtain rfl : xs = [] := List.eq_nil_of_length_eq_zero (by omega)
    exact Bytes.of_mem (by simp)
  · exact hx
theorem srcB_news {base : Nat} {w w' : World} {a : Option Addr} {len : Nat} {xs : List Nat} (h : SrcB base w a len xs) (hc : ∀ b o j, b < base → w'.cell? ⟨b, o + j, none⟩ = w.cell? ⟨b, o + j, none⟩) :
    ∀ b, a = some b → ∀ j u, (valsOf xs)[j]? = some u → w'.cell? (b.add j) = some u := by
  intro b hb j u hu
  have hj : j < xs.length := by
    have := (List.getElem?_eq_some_iff.1 hu).1
    rwa [valsOf_length] at this
  rcases h.2 with h0 | ⟨b', o, ha, hbl, hx, hs⟩
  · have := h.1; omega
  · rw [ha] at hb
    injection hb with hb
    subst hb
    rw [valsOf_at hj] at hu
    have hadd : (⟨b', o, none⟩ : Addr).add j = ⟨b', o + j, none⟩ := by unfold Addr.add; split <;> simp_all
    rw [hadd, hc b' o j hbl, hs j (by have := h.1; omega)]
    exact hu
theorem bytes_snoc {xs : List Nat} (h : Bytes xs) : Bytes (xs ++ [0]) := by
  refine Bytes.of_mem fun x hx => ?_
  rcases List.mem_append.1 hx with hx | hx
  · exact h.mem x hx
  · simp at hx; omega

theorem below_own {w w' : World} {base : Nat} {v : Value} {xs : List Nat} (h : Own w base v xs) (hg : w.grownBy w' v.ownBlock) (hb : base ≤ w.heap.size) : Below base w w' := below_of_grown hg hb (fun g e => (h.lt g e).1)

theorem srcB_own {w : World} {base : Nat} {v : Value} {xs : List Nat} (h : Own w base v xs) (hx : Bytes xs) : ∃ sa c, v = .slice sa xs.length c ∧ (sa = none → c = 0) ∧ SrcB w.heap.size w sa xs.length xs := by
  rcases Nat.eq_zero_or_pos xs.length with h0 | h0
  · rcases h.2 with ⟨h', h1⟩ | ⟨g, cap, cur, h', _⟩
    · exact ⟨none, 0, by rw [h', h0], fun _ => rfl, rfl, .inl h0⟩
    · exact ⟨_, cap, h', (fun e => by cases e), rfl, .inl h0⟩
  · obtain ⟨g, cap, cur, rfl, hb, hg, _⟩ := h.form h0
    exact ⟨_, cap, rfl, (fun e => by cases e), rfl, .inr ⟨g, 0, rfl, hg, hx, h.cells⟩⟩
theorem srcB_made {w : World} {ys : List Nat} {cells : Array Value} {T : TypeId} (hx : Bytes ys) (hc : cells.toList = valsOf ys) : SrcB (w.heap.size + 1) (w.alloc (.cells cells T)) (some ⟨w.heap.size, 0, none⟩) ys.length ys := by
  refine ⟨rfl, .inr ⟨w.heap.size, 0, rfl, Nat.lt_succ_self _, hx, fun j hj => ?_⟩⟩
  rw [Nat.zero_add, row_cell (heap_alloc_new w _), ← Array.getElem?_toList, hc, valsOf_at hj]
theorem Own.key {w : World} {base n : Nat} {v : Value} {xs : List Nat} (h : Own w base v xs) (hl : xs.length = n) (hn : 0 < n) (hn2 : n ≤ 1048576) (hx : Bytes xs) : ∃ g cap, v = .slice (some ⟨g, 0, none⟩) n cap ∧ base ≤ g ∧ Hid (Key w g 0 n xs) := by
  subst hl
  obtain ⟨g, cap, cur, rfl, hb, hg, _⟩ := h.form hn
  exact ⟨g, cap, rfl, hb, hid ⟨hn, hn2, hx, h.cells⟩⟩
theorem own_empty (w : World) (base : Nat) (hb : base ≤ w.heap.size) : Own (w.alloc (.cells #[] 5)) base (.slice (some ⟨w.heap.size, 0, none⟩) 0 0) [] := World.ownsRow_made w #[] 0 hb (by decide) rfl
theorem own_made {w : World} {base : Nat} {ys : List Nat} {cells : Array Value} (hb : base ≤ w.heap.size) (hc : cells.toList = valsOf ys) (hm : ys.length ≤ 2097152) : Own (w.alloc (.cells cells 5)) base (.slice (some ⟨w.heap.size, 0, none⟩) ys.length ys.length) ys := by
  have hs : cells.size = ys.length := by rw [← Array.length_toList, hc, valsOf_length]
  refine Own.mk hb (heap_alloc_new w _) rfl (Nat.le_refl _) (by unfold maxLen; omega) hs (fun j hj => ?_)
  rw [← Array.getElem?_toList, hc, valsOf_at hj]

section
variable {ops : Array Oper} {rest : List Oper} {o : Oper} {a : Act} {w : World} {Q : Exit → Act → World → Prop}
/-- 'append(s, x...)', s the call's own, x any slice of bytes. -/
theorem wp_append_bytes {K : Act → World → Prop} (s x : Operand) (ho : o.op = .call { callee := .builtin .append, args := #[s, x], argTypes := #[22, 22] })
    (base : Nat) (v : Value) (xs : List Nat) (hs : a.eval s = v) (hown : Own w base v xs) (sa : Option Addr) (m c : Nat) (ys : List Nat) (hx : a.eval x = .slice sa m c) (hc : sa = none → c = 0) (B : Nat) (hsrc : SrcB B w sa m ys)
    (hlen : xs.length + m ≤ 2097152) (hbase : base ≤ w.heap.size)
    (h : ∀ v' w', Hid (Own w' base v' (xs ++ ys)) → Hid (w.grownBy w' v.ownBlock) → K (a.put o.dst v') w') : Oper.wp Tryd.prog o a w K Q := by
  obtain ⟨i0, hi, hz0, hz1, hz2⟩ := info_parts infoByte
  cases sa with
  | none =>
    obtain rfl := hc rfl
    have hm : m = 0 := by
      rcases hsrc.2 with h0 | ⟨_, _, h1, _⟩
      · exact h0
      · cases h1
    subst hm
    obtain rfl := List.eq_nil_of_length_eq_zero hsrc.1
    have hrun := run_append_owned_none (P := Tryd.prog) (w := w) base 22 o.type 5 i0 1 Tryd.underlying22 hi v xs.length (valsOf xs) hown
    unfold Oper.wp
    simp [execOp, ho, resolve, invoke, builtin, hs, hx, hrun, Result.andThen]
    exact h v w (hid (by simpa using hown)) (hid ⟨rfl, rfl, rfl, Nat.le_refl _, fun _ _ _ => rfl⟩)
  | some ad =>
    refine wp_append_own w s x _ ho base 5 i0 (.int .u8 0) 1 1 Tryd.underlying22 hi hz0 hz1 hz2 rfl (by decide) v xs.length (valsOf xs) hs hown ad m c (valsOf ys) hx (by rw [valsOf_length, hsrc.1]; omega) (srcB_news hsrc (fun _ _ _ _ => rfl) ad rfl) (valsOf_one ys) (by unfold maxLen; omega) (by omega) hbase fun v' w' h1 h2 _ => h v' w' (hid ?_) (hid h2)
    unfold Own
    rw [List.length_append, hsrc.1, show valsOf (xs ++ ys) = valsOf xs ++ valsOf ys by simp [valsOf]]
    exact h1
theorem wpList_append_bytes (hgd : o.guard = none) (s x : Operand) (ho : o.op = .call { callee := .builtin .append, args := #[s, x], argTypes := #[22, 22] })
    (base : Nat) (v : Value) (xs : List Nat) (hs : a.eval s = v) (hown : Own w base v xs) (sa : Option Addr) (m c : Nat) (ys : List Nat) (hx : a.eval x = .slice sa m c) (hc : sa = none → c = 0) (B : Nat) (hsrc : SrcB B w sa m ys)
    (hlen : xs.length + m ≤ 2097152) (hbase : base ≤ w.heap.size)
    (h : ∀ v' w', Hid (Own w' base v' (xs ++ ys)) → Hid (w.grownBy w' v.ownBlock) → wpList Tryd.prog ops Q rest (a.put o.dst v') w') : wpList Tryd.prog ops Q (o :: rest) a w :=
  wpList_plain hgd fun _ hK => wp_append_bytes s x ho base v xs hs hown sa m c ys hx hc B hsrc hlen hbase fun v' w' h1 h2 => hK _ _ (h v' w' h1 h2)
set_option maxRecDepth 100000 in
/-- .. s a row that was made of a constant text, full. -/
theorem wpList_append_const (hgd : o.guard = none) (s x : Operand) (ho : o.op = .call { callee := .builtin .append, args := #[s, x], argTypes := #[22, 22] })
    (g n : Nat) (xs : List Nat) (hs : a.eval s = .slice (some ⟨g, 0, none⟩) n n) (hl : xs.length = n) (hc : ∀ j, j < n → w.cell? ⟨g, j, none⟩ = some (.int .u8 (byteAt xs j : Nat))) (ga m c : Nat) (ys : List Nat) (hx : a.eval x = .slice (some ⟨ga, 0, none⟩) m c) (B : Nat) (hsrc : SrcB B w (some ⟨ga, 0, none⟩) m ys) (hm : 0 < m)
    (hlen : n + m ≤ 2097152)
    (h : ∀ v' w', Hid (Own w' w.heap.size v' (xs ++ ys)) → Hid (w.grownBy w' none) → wpList Tryd.prog ops Q rest (a.put o.dst v') w') : wpList Tryd.prog ops Q (o :: rest) a w := by
  obtain ⟨i0, hi, hz0, hz1, hz2⟩ := info_parts infoByte
  subst hl
  refine wpList_append_grows w hgd s x _ ho 5 i0 (.int .u8 0) 1 1 Tryd.underlying22 hi hz0 hz1 hz2 rfl (by decide) (some ⟨g, 0, none⟩) xs.length xs.length (valsOf xs) hs (fun e => by cases e) (by rw [valsOf_length]; omega) (fun b hb j u hj => ?_) ⟨ga, 0, none⟩ m c (valsOf ys) hx (by rw [valsOf_length, hsrc.1]; omega) (srcB_news hsrc (fun _ _ _ _ => rfl) _ rfl) (valsOf_one ys) (by omega) (by unfold maxLen; omega) (by omega) fun v' w' h1 h2 => h v' w' (hid ?_) (hid h2)
  · injection hb with hb
    subst hb
    have hj2 : j < xs.length := by
      have := (List.getElem?_eq_some_iff.1 hj).1
      rwa [valsOf_length] at this
    rw [valsOf_at hj2] at hj
    have hadd : (⟨g, 0, none⟩ : Addr).add j = ⟨g, j, none⟩ := by unfold Addr.add; split <;> simp_all
    rw [hadd, hc j hj2]
    exact hj
  · unfold Own
    rw [List.length_append, hsrc.1, show valsOf (xs ++ ys) = valsOf xs ++ valsOf ys by simp [valsOf]]
    exact h1
end
#print axioms wpList_append_bytes
#print axioms wpList_append_const
end Go.Proofs.YthmjkcnmmlemgaaDoor
