/-
  Package variables that a row leaves open, as the walks read them: whatever numbers of 32 bits the five tables hold.
-/
import Derived.Test.YthmjkcnmmlemgaaDoorInit
import Derived.OpenVars
import Derived.OpenShut
import Derived.ChangeArms
namespace Go.Proofs.YthmjkcnmmlemgaaDoor
open Go.RowKit

theorem block_ints {H : Type} {P : Program} {W : World} {enc : TypeId × Value → H} {base : Nat} {spare : Nat → Bool} {held : Bool} {fuel n g : Nat} {name : String} {t e : TypeId} {k : IntKind} {cs : Array Value} {x : DataW H × List MemPlace}
    (hu : P.underlying t = some (.array n e)) (he : P.underlying e = some (.int k)) (hce : P.cellsOf e = 1) (hg : P.globalNamed name = some g) (h : W.var? P name = some cs) (ht : DataW.trod enc P W base spare held fuel t cs.toList = some x) :
    ∀ i, i < n → ∃ z : Int, (Lit.int k z).wf = true ∧ W.cell? ⟨g, i, none⟩ = some (.int k z) := by
  intro i hi
  obtain ⟨xs, m, rfl, _, hl, hxl, hx⟩ := DataW.trod_array hu ht
  have hxi := hx i hi
  rw [hce, Nat.mul_one, List.getElem?_eq_getElem (by omega)] at hxi
  obtain ⟨z, hz, _, hw⟩ := DataW.trod_int he hxi
  refine ⟨z, hw, ?_⟩
  unfold World.var? at h
  rw [hg] at h
  simp only [Option.bind_some] at h
  cases hb : W.heap[g]? with
  | none => rw [hb] at h; cases h
  | some o =>
    rw [hb] at h
    cases o with
    | cells cs' t' fr =>
      simp only [Option.some.injEq] at h
      subst h
      rw [cell_of_row W g i cs' t' fr hb]
      have e1 := congrArg (fun l => l[0]?) hz
      simp only [List.getElem?_take, List.getElem?_drop] at e1
      simpa using e1
    | _ => cases h
theorem nums_of {W : World} {g n : Nat} (h : ∀ i, i < n → ∃ z : Int, (Lit.int .u32 z).wf = true ∧ W.cell? ⟨g, i, none⟩ = some (.int .u32 z)) : ∃ f : Nat → Nat, ∀ i, i < n → f i < 4294967296 ∧ W.cell? ⟨g, i, none⟩ = some (.int .u32 (f i : Nat)) := by
  have h' : ∀ i, ∃ z : Nat, i < n → z < 4294967296 ∧ W.cell? ⟨g, i, none⟩ = some (.int .u32 (z : Nat)) := by
    intro i
    by_cases hi : i < n
    · obtain ⟨z, hw, hc⟩ := h i hi
      simp [Lit.wf, IntKind.min, IntKind.max, IntKind.signed, IntKind.bits] at hw
      exact ⟨z.toNat, fun _ => ⟨by omega, by rw [Int.toNat_of_nonneg (by omega)]; exact hc⟩⟩
    · exact ⟨0, fun h => absurd h hi⟩
  exact ⟨fun i => (h' i).choose, fun i hi => (h' i).choose_spec hi⟩
theorem bytes_of {W : World} {g n : Nat} (h : ∀ i, i < n → ∃ z : Int, (Lit.int .u8 z).wf = true ∧ W.cell? ⟨g, i, none⟩ = some (.int .u8 z)) : ∃ f : Nat → Nat, ∀ i, i < n → f i < 256 ∧ W.cell? ⟨g, i, none⟩ = some (.int .u8 (f i : Nat)) := by
  have h' : ∀ i, ∃ z : Nat, i < n → z < 256 ∧ W.cell? ⟨g, i, none⟩ = some (.int .u8 (z : Nat)) := by
    intro i
    by_cases hi : i < n
    · obtain ⟨z, hw, hc⟩ := h i hi
      simp [Lit.wf, IntKind.min, IntKind.max, IntKind.signed, IntKind.bits] at hw
      exact ⟨z.toNat, fun _ => ⟨by omega, by rw [Int.toNat_of_nonneg (by omega)]; exact hc⟩⟩
    · exact ⟨0, fun h => absurd h hi⟩
  exact ⟨fun i => (h' i).choose, fun i hi => (h' i).choose_spec hi⟩
/-- Five tables as one. -/
def tab5 (p a b c d : Nat → Nat) : Nat → Nat := fun i => if i < 18 then p i else if i < 274 then a (i - 18) else if i < 530 then b (i - 274) else if i < 786 then c (i - 530) else d (i - 786)
theorem glob_of {W : World} {p a b c d : Nat → Nat}
    (h1 : ∀ i, i < 18 → p i < 4294967296 ∧ W.cell? ⟨0, i, none⟩ = some (.int .u32 (p i : Nat)))
    (h2 : ∀ i, i < 256 → a i < 4294967296 ∧ W.cell? ⟨1, i, none⟩ = some (.int .u32 (a i : Nat)))
    (h3 : ∀ i, i < 256 → b i < 4294967296 ∧ W.cell? ⟨2, i, none⟩ = some (.int .u32 (b i : Nat)))
    (h4 : ∀ i, i < 256 → c i < 4294967296 ∧ W.cell? ⟨3, i, none⟩ = some (.int .u32 (c i : Nat)))
    (h5 : ∀ i, i < 256 → d i < 4294967296 ∧ W.cell? ⟨4, i, none⟩ = some (.int .u32 (d i : Nat))) : Glob W (tab5 p a b c d) := by
  have e1 : ∀ i, i < 18 → tab5 p a b c d (0 + i) = p i := fun i hi => by unfold tab5; rw [if_pos (by omega), Nat.zero_add]
  have e2 : ∀ i, i < 256 → tab5 p a b c d (18 + i) = a i := fun i hi => by unfold tab5; rw [if_neg (by omega), if_pos (by omega), Nat.add_sub_cancel_left]
  have e3 : ∀ i, i < 256 → tab5 p a b c d (274 + i) = b i := fun i hi => by unfold tab5; rw [if_neg (by omega), if_neg (by omega), if_pos (by omega), Nat.add_sub_cancel_left]
  have e4 : ∀ i, i < 256 → tab5 p a b c d (530 + i) = c i := fun i hi => by unfold tab5; rw [if_neg (by omega), if_neg (by omega), if_neg (by omega), if_pos (by omega), Nat.add_sub_cancel_left]
  have e5 : ∀ i, i < 256 → tab5 p a b c d (786 + i) = d i := fun i hi => by unfold tab5; rw [if_neg (by omega), if_neg (by omega), if_neg (by omega), if_neg (by omega), Nat.add_sub_cancel_left]
  exact ⟨fun i hi => by rw [e1 i hi]; exact h1 i hi, fun i hi => by rw [e2 i hi]; exact h2 i hi, fun i hi => by rw [e3 i hi]; exact h3 i hi, fun i hi => by rw [e4 i hi]; exact h4 i hi, fun i hi => by rw [e5 i hi]; exact h5 i hi⟩

/-- The variables' blocks are there. -/
theorem glob_top {W : World} {t : Nat → Nat} (h : Glob W t) : globTop ≤ W.heap.size := by
  obtain ⟨h1, h2, h3, h4, h5⟩ := h
  have b1 : 0 < W.heap.size := block_lt_of_cell (h1 0 (by decide)).2
  have b2 : 1 < W.heap.size := block_lt_of_cell (h2 0 (by decide)).2
  have b3 : 2 < W.heap.size := block_lt_of_cell (h3 0 (by decide)).2
  have b4 : 3 < W.heap.size := block_lt_of_cell (h4 0 (by decide)).2
  have b5 : 4 < W.heap.size := block_lt_of_cell (h5 0 (by decide)).2
  unfold globTop
  omega
end Go.Proofs.YthmjkcnmmlemgaaDoor
