/-
  'copy(dst, src)' of bytes, dst in a row of bytes that is known whole: as a law for the walk and as one step of a region that draws its order. No condition beyond what each states.
-/
import Derived.Test.YthmjkcnmmlemgaaDoorBRow
import Derived.Laws.CopyOwn
import Derived.Laws.MakeOwn
namespace Go.Proofs.YthmjkcnmmlemgaaDoor
open Go.RowKit

def bytesOf (n : Nat) (B : Nat → Nat) : List Value := (List.range n).map fun i => Value.int .u8 (B i : Nat)
theorem bytesOf_length (n : Nat) (B : Nat → Nat) : (bytesOf n B).length = n := by simp [bytesOf]
theorem bytesOf_at {n : Nat} {B : Nat → Nat} {j : Nat} (h : j < n) : (bytesOf n B)[j]? = some (.int .u8 (B j : Nat)) := by simp [bytesOf, h]
theorem bytesOf_one {n : Nat} {B : Nat → Nat} : ∀ v ∈ bytesOf n B, v.oneCell' = true := by
  intro v hv
  simp only [bytesOf, List.mem_map] at hv
  obtain ⟨j, _, rfl⟩ := hv
  rfl
theorem bytesOf_some {n : Nat} {B : Nat → Nat} {j : Nat} {v : Value} (h : (bytesOf n B)[j]? = some v) : j < n ∧ v = .int .u8 (B j : Nat) := by
  have hj : j < n := by
    have := (List.getElem?_eq_some_iff.1 h).1
    rwa [bytesOf_length] at this
  rw [bytesOf_at hj] at h
  injection h with h
  exact ⟨hj, h.symm⟩
theorem addr_add (b o j : Nat) : (⟨b, o, none⟩ : Addr).add j = ⟨b, o + j, none⟩ := by unfold Addr.add; split <;> simp_all
/-- m bytes laid over a row from place off on. -/
def putL (B : Nat → Nat) (off m : Nat) (S : Nat → Nat) : Nat → Nat := fun i => if off ≤ i ∧ i < off + m then S (i - off) else B i

section
variable {P : Program} {ops : Array Oper} {rest : List Oper} {o : Oper} {a : Act} {w : World} {Q : Exit → Act → World → Prop}
theorem brow_put {g N off m : Nat} {B S : Nat → Nat} {cs : Array Value} {w' : World} (hsz : cs.size = N) (hc : ∀ i, i < N → B i < 256 ∧ cs[i]? = some (.int .u8 (B i : Nat))) (hS : ∀ j, j < m → S j < 256) (hfit : off + m ≤ N)
    (hr : w'.heap[g]? = some (.cells (cs.toList.take off ++ (bytesOf m S ++ cs.toList.drop (off + (bytesOf m S).length))).toArray 5 (0, 0))) : BRow w' g N (putL B off m S) := by
  have hl : (cs.toList.take off).length = off := by simp; omega
  have hm := bytesOf_length m S
  refine ⟨_, hr, by simp [hm]; omega, fun i hi => ?_⟩
  simp only [List.getElem?_toArray]
  unfold putL
  by_cases h0 : i < off
  · rw [List.getElem?_append_left (by omega), List.getElem?_take, if_pos h0, if_neg (by omega)]
    exact ⟨(hc i hi).1, by simpa using (hc i hi).2⟩
  · rw [List.getElem?_append_right (by omega), hl]
    by_cases h1 : i < off + m
    · rw [List.getElem?_append_left (by omega), bytesOf_at (by omega), if_pos (by omega)]
      exact ⟨hS _ (by omega), rfl⟩
    · rw [List.getElem?_append_right (by omega), hm, List.getElem?_drop, if_neg (by omega), show off + m + (i - off - m) = i by omega]
      exact ⟨(hc i hi).1, by simpa using (hc i hi).2⟩
theorem wp_copy_bytes {K : Act → World → Prop} (d s : Operand) (dT sT : TypeId) (ho : o.op = .call { callee := .builtin .copy, args := #[d, s], argTypes := #[dT, sT] })
    (hu : P.underlying dT = some (.slice 5)) (hsz : (P.info? 5).map (·.size) = some 1)
    (g off dLen dCap sb so sLen sCap m N : Nat) (B S : Nat → Nat) (hd : a.eval d = .slice (some ⟨g, off, none⟩) dLen dCap) (hs : a.eval s = .slice (some ⟨sb, so, none⟩) sLen sCap) (hb : BRow w g N B) (hm : m = Nat.min sLen dLen)
    (hsrc : ∀ j, j < m → S j < 256 ∧ w.cell? ⟨sb, so + j, none⟩ = some (.int .u8 (S j : Nat))) (hfit : off + m ≤ N)
    (h : ∀ w', Hid (BRow w' g N (putL B off m S)) → w'.heap.size = w.heap.size → Hid (w.grownBy w' (some g)) → K (a.put o.dst (goInt m)) w') : Oper.wp P o a w K Q := by
  obtain ⟨cs, hr, hz, hc⟩ := hb
  have hrun := run_copy_row (P := P) w dT sT o.type 5 g off dLen dCap ⟨sb, so, none⟩ sLen sCap cs 5 (bytesOf m S) hu hsz hr (by rw [bytesOf_length]; exact hm)
    (fun j v hv => by obtain ⟨hj, rfl⟩ := bytesOf_some hv; rw [addr_add]; exact (hsrc j hj).2) (by rw [bytesOf_length]; omega) bytesOf_one
  have hrow := brow_put (S := S) (m := m) hz hc (fun j hj => (hsrc j hj).1) hfit (setRow_heap w g _ (cs.toList.take off ++ (bytesOf m S ++ cs.toList.drop (off + (bytesOf m S).length))).toArray _ _ hr)
  rw [show goInt (bytesOf m S).length = goInt m by rw [bytesOf_length], List.append_assoc] at hrun
  unfold Oper.wp
  simp [execOp, ho, resolve, invoke, builtin, hd, hs, hrun, Result.andThen, -List.append_assoc]
  exact h _ hrow (by simp [World.setRow]) (grown_setRow w g _)
theorem wpList_copy_bytes (hgd : o.guard = none) (d s : Operand) (dT sT : TypeId) (ho : o.op = .call { callee := .builtin .copy, args := #[d, s], argTypes := #[dT, sT] })
    (hu : P.underlying dT = some (.slice 5)) (hsz : (P.info? 5).map (·.size) = some 1)
    (g off dLen dCap sb so sLen sCap m N : Nat) (B S : Nat → Nat) (hd : a.eval d = .slice (some ⟨g, off, none⟩) dLen dCap) (hs : a.eval s = .slice (some ⟨sb, so, none⟩) sLen sCap) (hb : BRow w g N B) (hm : m = Nat.min sLen dLen)
    (hsrc : ∀ j, j < m → S j < 256 ∧ w.cell? ⟨sb, so + j, none⟩ = some (.int .u8 (S j : Nat))) (hfit : off + m ≤ N)
    (h : ∀ w', Hid (BRow w' g N (putL B off m S)) → w'.heap.size = w.heap.size → Hid (w.grownBy w' (some g)) → wpList P ops Q rest (a.put o.dst (goInt m)) w') : wpList P ops Q (o :: rest) a w :=
  wpList_plain hgd fun _ hK => wp_copy_bytes d s dT sT ho hu hsz g off dLen dCap sb so sLen sCap m N B S hd hs hb hm hsrc hfit fun w' h1 h2 h3 => hK _ _ (h w' h1 h2 h3)
theorem step_copy_bytes {K : Act → World → Prop} {E : Prop} (hgd : o.guard = none) (d s : Operand) (dT sT : TypeId) (ho : o.op = .call { callee := .builtin .copy, args := #[d, s], argTypes := #[dT, sT] })
    (hu : P.underlying dT = some (.slice 5)) (hsz : (P.info? 5).map (·.size) = some 1)
    (g off dLen dCap sb so sLen sCap m N : Nat) (B S : Nat → Nat) (hd : a.eval d = .slice (some ⟨g, off, none⟩) dLen dCap) (hs : a.eval s = .slice (some ⟨sb, so, none⟩) sLen sCap) (hb : BRow w g N B) (hm : m = Nat.min sLen dLen)
    (hsrc : ∀ j, j < m → S j < 256 ∧ w.cell? ⟨sb, so + j, none⟩ = some (.int .u8 (S j : Nat))) (hfit : off + m ≤ N)
    (h : ∀ w', Hid (BRow w' g N (putL B off m S)) → w'.heap.size = w.heap.size → Hid (w.grownBy w' (some g)) → K (a.put o.dst (goInt m)) w') :
    if Region.wanted o (yielded ops a.tmps) = true then Oper.wp P o a w K Q else E := by
  have hw : Region.wanted o (yielded ops a.tmps) = true := by simp [Region.wanted, hgd]
  rw [if_pos hw]
  exact wp_copy_bytes d s dT sT ho hu hsz g off dLen dCap sb so sLen sCap m N B S hd hs hb hm hsrc hfit h
end
/-- A row that 'make' has laid. -/
theorem made_brow {w : World} {base g n : Nat} (h : w.ownsRow base 5 1 (.slice (some ⟨g, 0, none⟩) n n) n (madeCells (Value.int IntKind.u8 0).cells (n * 1)).toList) : BRow w g n (fun _ => 0) := by
  rcases h.2 with ⟨h', _⟩ | ⟨g', cap, cur, h', _, hg, _, _, hcs, ht⟩
  · simp at h'
  · simp only [Value.slice.injEq, Option.some.injEq, Addr.mk.injEq, and_true, true_and] at h'
    obtain ⟨rfl, rfl⟩ := h'
    refine ⟨cur, hg, by simpa using hcs, fun i hi => ⟨show (0 : Nat) < 256 by decide, ?_⟩⟩
    have e := congrArg (fun l => l[i]?) ht
    simp only [List.getElem?_take] at e
    rw [if_pos (by omega)] at e
    have h1 : i % 1 = 0 := Nat.mod_one i
    simp [madeCells, hi, Value.cells, h1] at e
    exact e
/-- 'make([]byte, l, c)': the world behind it is a letter. -/
theorem wpList_make_brow {P : Program} {ops : Array Oper} {rest : List Oper} {o : Oper} {a : Act} {w : World} {Q : Exit → Act → World → Prop} (hg : o.guard = none) (lo co : Operand) (t : TypeId) (hop : o.op = .makeSlice t lo co) (i : TypeInfo)
    (h1 : P.underlying t = some (.slice 5)) (h2 : P.info? 5 = some i) (h3 : i.zero = some (.int .u8 0)) (h4 : i.size = 1) (h5 : i.bytes = 1) (kl kc : IntKind) (L C : Int) (l c : Nat)
    (hl : a.eval lo = .int kl L) (hc : a.eval co = .int kc C) (hL : L = (l : Int)) (hC : C = (c : Int)) (hlc : l ≤ c) (hb : c ≤ 1048576)
    (h : ∀ w', Hid (BRow w' w.heap.size c (fun _ => 0)) → w.heap.size < w'.heap.size → Hid (w.grownBy w' none) → wpList P ops Q rest (a.put o.dst (.slice (some ⟨w.heap.size, 0, none⟩) l c)) w') : wpList P ops Q (o :: rest) a w := by
  refine wpList_plain hg fun K hK => ?_
  subst hL hC
  have hrun := run_make (P := P) w t 5 i (.int .u8 0) h1 h2 h3 kl kc (l : Int) (c : Int) (by omega) (by omega) (by rw [h5]; omega) (by omega)
  simp only [Int.toNat_natCast, h4] at hrun
  unfold Oper.wp
  simp [execOp, hop, hl, hc, hrun, Result.andThen]
  refine hK _ _ (h _ ⟨_, heap_alloc_new w _, ?_, fun j hj => ⟨show (0 : Nat) < 256 by decide, ?_⟩⟩ (by simp) (grown_alloc w none _))
  · simp [madeCells]
  · have hm : j % 1 = 0 := Nat.mod_one j
    simp [madeCells, hj, Value.cells, hm]
#print axioms step_copy_bytes
end Go.Proofs.YthmjkcnmmlemgaaDoor
