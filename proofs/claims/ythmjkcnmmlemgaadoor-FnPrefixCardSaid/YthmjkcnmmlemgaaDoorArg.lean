/-
  A slice of bytes that comes in, as the walks read it; its clone.
-/
import Derived.Test.YthmjkcnmmlemgaaDoorRow
namespace Go.Proofs.YthmjkcnmmlemgaaDoor
open Go.RowKit

/-- A slice of integers that came in: nil, or a row of 'cap' numbers of which the first 'len' are its elements. -/
def IsRow (k : IntKind) (w : World) (a : Option Addr) (len cap : Nat) (zs : List Int) : Prop :=
  (a = none ∧ len = 0 ∧ cap = 0 ∧ zs = []) ∨
  ∃ x, a = some x ∧ len ≤ cap ∧ cap ≤ maxLen ∧ zs.length = cap ∧ (∀ i, i < zs.length → w.cell? (x.add i) = some (.int k (zs.getD i 0))) ∧ ∀ n ∈ zs, (Lit.int k n).wf = true

theorem wf_u8 {n : Int} (h : (Lit.int .u8 n).wf = true) : 0 ≤ n ∧ n < 256 := by
  simp [Lit.wf, IntKind.min, IntKind.max, IntKind.signed, IntKind.bits] at h
  omega

theorem IsRow.bytes {w : World} {a : Option Addr} {len cap : Nat} {zs : List Int} (h : IsRow .u8 w a len cap zs) (hl : 0 < len) :
    ∃ b o xs, a = some ⟨b, o, none⟩ ∧ len ≤ cap ∧ xs.length = len ∧ Bytes xs ∧ ∀ j, j < len → w.cell? ⟨b, o + j, none⟩ = some (.int .u8 (byteAt xs j : Nat)) := by
  rcases h with ⟨_, h0, _⟩ | ⟨x, rfl, hlc, _, hz, hcell, hwf⟩
  · omega
  · obtain ⟨b, o, spot⟩ := x
    have hc := hcell 0 (by omega)
    have hspot : spot = none := by simpa [Addr.add] using World.cell?_spot hc
    subst hspot
    have hget : ∀ j, (hj : j < len) → zs.getD j 0 = ((zs[j]'(by omega)).toNat : Int) := by
      intro j hj
      have := wf_u8 (hwf _ (List.getElem_mem (show j < zs.length by omega)))
      rw [List.getD_eq_getElem?_getD, List.getElem?_eq_getElem (by omega)]
      simp only [Option.getD_some]
      omega
    refine ⟨b, o, (zs.take len).map Int.toNat, rfl, hlc, by simp; omega, Bytes.of_mem (fun y hy => ?_), fun j hj => ?_⟩
    · simp only [List.mem_map] at hy
      obtain ⟨z, hz', rfl⟩ := hy
      have := wf_u8 (hwf z (List.mem_of_mem_take hz'))
      omega
    · have hadd : (⟨b, o, none⟩ : Addr).add j = ⟨b, o + j, none⟩ := by unfold Addr.add; split <;> simp_all
      rw [← hadd, hcell j (by omega), hget j hj]
      have e : byteAt ((zs.take len).map Int.toNat) j = (zs[j]'(by omega)).toNat := by
        unfold byteAt
        rw [List.getD_eq_getElem?_getD, List.getElem?_map, List.getElem?_take, if_pos hj, List.getElem?_eq_getElem (by omega)]
        rfl
      rw [e]

def LawPost (w : World) (e : Ending) (w' : World) : Prop := e = .returned (.bool true) ∧ Below w.heap.size w w'

/-- A slice that can be read: empty, or its bytes lie there. -/
def Src (w : World) (a : Option Addr) (len : Nat) (xs : List Nat) : Prop :=
  xs.length = len ∧ (len = 0 ∨ ∃ b o, a = some ⟨b, o, none⟩ ∧ b < w.heap.size ∧ Bytes xs ∧ ∀ j, j < len → w.cell? ⟨b, o + j, none⟩ = some (.int .u8 (byteAt xs j : Nat)))
theorem IsRow.src {w : World} {a : Option Addr} {len cap : Nat} {zs : List Int} (h : IsRow .u8 w a len cap zs) : ∃ xs, Src w a len xs := by
  rcases Nat.eq_zero_or_pos len with rfl | h0
  · exact ⟨[], rfl, .inl rfl⟩
  · obtain ⟨b, o, xs, rfl, hlc, hxl, hx, hs⟩ := h.bytes h0
    exact ⟨xs, hxl, .inr ⟨b, o, rfl, block_lt_of_cell (hs 0 h0), hx, hs⟩⟩
theorem Src.below {w w' : World} {a : Option Addr} {len : Nat} {xs : List Nat} (h : Src w a len xs) (hb : Below w.heap.size w w') : Src w' a len xs := by
  refine ⟨h.1, ?_⟩
  rcases h.2 with h0 | ⟨b, o, ha, hbl, hx, hs⟩
  · exact .inl h0
  · exact .inr ⟨b, o, ha, Nat.lt_of_lt_of_le hbl hb.size, hx, fun j hj => (hb.cell (p := ⟨b, o + j, none⟩) hbl).trans (hs j hj)⟩

theorem run_eql_slice_none {P : Program} (t e : TypeId) (h : P.underlying t = some (.slice e)) (n c n' c' : Nat) (w : World) :
    (binOp .eql t (.slice none n c) (.slice none n' c')).run P w = .ok (.bool true) w := by
  have he : ∀ d : Nat, (Op.equalIn (d + 1) t (.slice none n c) (.slice none n' c')).run P w = .ok true w := fun d => by simp [Op.equalIn, run_underlying h]
  simp only [binOp]
  simp [Op.equal, Op.maxDepth, he 9999]

set_option maxHeartbeats 1000000 in
theorem clone_zero (a : Option Addr) (c : Nat) (w : World) : Calls Tryd.prog 13 #[.slice a 0 c] w (OwnPost [] w) := by
  obtain ⟨i0, hi, hz0, hz1, hz2⟩ := info_parts infoByte
  cases a with
  | none =>
    have hq := fun w => run_eql_slice_none (P := Tryd.prog) 22 5 Tryd.underlying22 0 c 0 0 w
    go_enter Tryd.func13, Tryd.ntmps13
    go_wp2_with fail
    go_ret
    refine ⟨.slice none 0 0, rfl, ?_, Below.refl _ _⟩
    unfold Own valsOf World.ownsRow
    exact ⟨by simp, .inl ⟨by rfl, by rfl⟩⟩
  | some x =>
    have hq := fun w => run_eql_slice_some (P := Tryd.prog) 22 5 Tryd.underlying22 x 0 c 0 0 w
    go_enter Tryd.func13, Tryd.ntmps13
    go_wp2_with ((with_reducible refine atOp (o := ⟨some 7, _, _, _, _, _⟩) ?_); refine wpList_append_own _ rfl (.tmp 5) (.tmp 6) 22 rfl w.heap.size 5 i0 (.int .u8 0) 1 1 Tryd.underlying22 hi hz0 hz1 hz2 rfl (by decide) (.slice (some ⟨w.heap.size, 0, none⟩) 0 0) 0 [] rfl (World.ownsRow_made w #[] 0 (Nat.le_refl _) (by decide) rfl) x 0 c [] rfl rfl (fun j u hu => by simp at hu) (fun u hu => by simp at hu) (by unfold maxLen; omega) (by omega) (by simp) ?_; intro v' w1 hown hgr _; have H1 := hid (And.intro hown hgr); clear hown hgr)
    go_ret
    obtain ⟨hown, hgr⟩ := H1.out
    refine ⟨v', rfl, hown, (Below.alloc (Below.refl w.heap.size w) (Nat.le_refl _) _).grown hgr (by simp) (fun k hk => ?_)⟩
    simp [Value.ownBlock] at hk
    omega

theorem clone_src {w : World} {a : Option Addr} {len c : Nat} {xs : List Nat} (h : Src w a len xs) (hl : len ≤ 2097152) : Calls Tryd.prog 13 #[.slice a len c] w (OwnPost xs w) := by
  rcases h.2 with rfl | ⟨b, o, rfl, hbl, hx, hs⟩
  · obtain rfl := List.eq_nil_of_length_eq_zero h.1
    exact clone_zero a c w
  · exact clone_any b o len c xs w hl h.1 hs
theorem own_slice {w : World} {base : Nat} {v : Value} {xs : List Nat} (h : Own w base v xs) : ∃ a c, v = .slice a xs.length c := by
  rcases h.2 with ⟨h', h0⟩ | ⟨g, cap, cur, h', _⟩
  · exact ⟨none, 0, by rw [h', h0]⟩
  · exact ⟨_, _, h'⟩
#print axioms clone_src
end Go.Proofs.YthmjkcnmmlemgaaDoor
