/-
  Slices of bytes that a call makes ('Own'), slices.Clone at bytes, the comparison of two slices of bytes as texts.
-/
import Derived.Test.YthmjkcnmmlemgaaDoorProg
import Derived.Test.YthmjkcnmmlemgaaDoorMem
import Derived.Test.YthmjkcnmmlemgaaDoorPlain
import Derived.WalkKit
import Derived.WalkSpells
import Derived.WalkLawsBesides
import Derived.KernelRfl
import Derived.Deep.CutBlock
import Derived.Deep.DeepCutAuto
namespace Go.Proofs.YthmjkcnmmlemgaaDoor
open Go.RowKit

def valsOf (xs : List Nat) : List Value := xs.map fun x => Value.int .u8 (x : Nat)
theorem valsOf_length (xs : List Nat) : (valsOf xs).length = xs.length := by simp [valsOf]
theorem valsOf_at {xs : List Nat} {j : Nat} (h : j < xs.length) : (valsOf xs)[j]? = some (.int .u8 (byteAt xs j : Nat)) := by
  simp [valsOf, byteAt, List.getElem?_eq_getElem h]
theorem valsOf_one (xs : List Nat) : ∀ u ∈ valsOf xs, u.oneCell' = true := by
  intro u hu
  simp only [valsOf, List.mem_map] at hu
  obtain ⟨x, _, rfl⟩ := hu
  rfl
/-- v is a slice of bytes of the call's own (blocks from base on) that holds xs. -/
def Own (w : World) (base : Nat) (v : Value) (xs : List Nat) : Prop := w.ownsRow base 5 1 v xs.length (valsOf xs)
theorem Own.form {w : World} {base : Nat} {v : Value} {xs : List Nat} (h : Own w base v xs) (hn : 0 < xs.length) :
    ∃ g cap cur, v = .slice (some ⟨g, 0, none⟩) xs.length cap ∧ base ≤ g ∧ g < w.heap.size ∧ xs.length ≤ cap ∧ cap ≤ maxLen ∧ w.heap[g]? = some (.cells cur 5 (0, 0)) ∧ cur.size = cap ∧
      ∀ j, j < xs.length → cur[j]? = some (.int .u8 (byteAt xs j : Nat)) := by
  obtain ⟨h1, ⟨_, h0⟩ | ⟨g, cap, cur, rfl, hb, hg, hnc, hcm, hcs, htake⟩⟩ := h
  · omega
  · refine ⟨g, cap, cur, rfl, hb, row_lt hg, hnc, hcm, hg, by simpa using hcs, fun j hj => ?_⟩
    have e := valsOf_at hj
    rw [← htake, List.getElem?_take, if_pos (by omega)] at e
    simpa using e
theorem Own.cells {w : World} {base g cap : Nat} {xs : List Nat} (h : Own w base (.slice (some ⟨g, 0, none⟩) xs.length cap) xs) : ∀ j, j < xs.length → w.cell? ⟨g, 0 + j, none⟩ = some (.int .u8 (byteAt xs j : Nat)) := by
  intro j hj
  rw [Nat.zero_add, World.ownsRow.cellAt h j (by omega), valsOf_at hj]
/-- Made anew out of a row that is known cell by cell. -/
theorem Own.mk {w : World} {base g n cap : Nat} {cur : Array Value} {xs : List Nat} (hb : base ≤ g) (hg : w.heap[g]? = some (.cells cur 5 (0, 0))) (hxl : xs.length = n) (hnc : n ≤ cap) (hcm : cap ≤ maxLen) (hcs : cur.size = cap)
    (hc : ∀ j, j < n → cur[j]? = some (.int .u8 (byteAt xs j : Nat))) : Own w base (.slice (some ⟨g, 0, none⟩) n cap) xs := by
  subst hxl
  refine ⟨by simp [valsOf_length], .inr ⟨g, cap, cur, rfl, hb, hg, hnc, hcm, by simpa using hcs, ?_⟩⟩
  apply List.ext_getElem?
  intro j
  rw [List.getElem?_take]
  by_cases hj : j < xs.length
  · rw [if_pos (by omega), valsOf_at hj]
    simpa using hc j hj
  · rw [if_neg (by omega), List.getElem?_eq_none (by rw [valsOf_length]; omega)]
theorem Own.below {w w' : World} {base : Nat} {v : Value} {xs : List Nat} (h : Own w base v xs) (hb : Below w.heap.size w w') : Own w' base v xs := by
  refine ⟨h.1, ?_⟩
  rcases h.2 with h2 | ⟨g, cap, cur, hv, h1, hg, r⟩
  · exact .inl h2
  · exact .inr ⟨g, cap, cur, hv, h1, (hb.block g (row_lt hg)).trans hg, r⟩
theorem Own.mono {w : World} {base base' : Nat} {v : Value} {xs : List Nat} (h : Own w base v xs) (hb : base' ≤ base) : Own w base' v xs := by
  refine ⟨h.1, ?_⟩
  rcases h.2 with h2 | ⟨g, cap, cur, hv, h1, r⟩
  · exact .inl h2
  · exact .inr ⟨g, cap, cur, hv, Nat.le_trans hb h1, r⟩
theorem Own.grown {w w' : World} {base : Nat} {v : Value} {xs : List Nat} {row : Option Nat} (h : Own w base v xs) (hb : w.grownBy w' row) (hr : v.ownBlock = none ∨ v.ownBlock ≠ row) : Own w' base v xs := World.ownsRow.kept h hb hr

/-- What a call that makes a slice of bytes leaves: the slice; nothing that was there has turned. -/
def OwnPost (xs : List Nat) (w : World) (e : Ending) (w' : World) : Prop := ∃ v, e = .returned v ∧ Own w' w.heap.size v xs ∧ Below w.heap.size w w'

theorem infoByte : (Tryd.prog.info? 5).map (fun i => (i.zero, i.size, i.bytes)) = some (some (.int .u8 0), 1, 1) := by kernel_rfl

theorem run_eql_slice_some {P : Program} (t e : TypeId) (h : P.underlying t = some (.slice e)) (a : Addr) (n c n' c' : Nat) (w : World) :
    (binOp .eql t (.slice (some a) n c) (.slice none n' c')).run P w = .ok (.bool false) w := by
  have he : ∀ d : Nat, (Op.equalIn (d + 1) t (.slice (some a) n c) (.slice none n' c')).run P w = .ok false w := fun d => by simp [Op.equalIn, run_underlying h]
  simp only [binOp]
  simp [Op.equal, Op.maxDepth, he 9999]

theorem clone_news {b o n : Nat} {xs : List Nat} {w : World} (hxl : xs.length = n) (hs : ∀ j, j < n → w.cell? ⟨b, o + j, none⟩ = some (.int .u8 (byteAt xs j : Nat))) {ob : Obj} :
    ∀ j u, (valsOf xs)[j]? = some u → (w.alloc ob).cell? ((⟨b, o, none⟩ : Addr).add j) = some u := by
  intro j u hu
  have hj : j < n := by
    have := (List.getElem?_eq_some_iff.1 hu).1
    rw [valsOf_length, hxl] at this
    exact this
  rw [valsOf_at (by omega)] at hu
  have hadd : (⟨b, o, none⟩ : Addr).add j = ⟨b, o + j, none⟩ := by unfold Addr.add; split <;> simp_all
  rw [hadd, World.cell?_alloc_lt _ _ _ (block_lt_of_cell (hs j hj)), hs j hj]
  exact hu

set_option maxHeartbeats 1000000 in
theorem clone_any (b o n c : Nat) (xs : List Nat) (w : World) (hn2 : n ≤ 2097152) (hxl : xs.length = n) (hs : ∀ j, j < n → w.cell? ⟨b, o + j, none⟩ = some (.int .u8 (byteAt xs j : Nat))) :
    Calls Tryd.prog 13 #[.slice (some ⟨b, o, none⟩) n c] w (OwnPost xs w) := by
  obtain ⟨i0, hi, hz0, hz1, hz2⟩ := info_parts infoByte
  have hq := fun w => run_eql_slice_some (P := Tryd.prog) 22 5 Tryd.underlying22 ⟨b, o, none⟩ n c 0 0 w
  have HXL := hid hxl
  have HS := hid hs
  clear hxl hs
  go_enter Tryd.func13, Tryd.ntmps13
  go_wp2_with ((with_reducible refine atOp (o := ⟨some 7, _, _, _, _, _⟩) ?_); refine wpList_append_own _ rfl (.tmp 5) (.tmp 6) 22 rfl w.heap.size 5 i0 (.int .u8 0) 1 1 Tryd.underlying22 hi hz0 hz1 hz2 rfl (by decide) (.slice (some ⟨w.heap.size, 0, none⟩) 0 0) 0 [] rfl (World.ownsRow_made w #[] 0 (Nat.le_refl _) (by decide) rfl) ⟨b, o, none⟩ n c (valsOf xs) rfl (by rw [valsOf_length, HXL.out]; omega) (clone_news HXL.out HS.out) (valsOf_one xs) (by unfold maxLen; omega) (by omega) (by simp) ?_; intro v' w1 hown hgr _; have H1 := hid (And.intro hown hgr); clear hown hgr)
  go_ret
  obtain ⟨hown, hgr⟩ := H1.out
  refine ⟨v', rfl, ?_, (Below.alloc (Below.refl w.heap.size w) (Nat.le_refl _) _).grown hgr (by simp) (fun k hk => ?_)⟩
  · have := hown
    rw [Nat.zero_add, List.nil_append, ← HXL.out] at this
    exact this
  · simp [Value.ownBlock] at hk
    omega

/-- The text of some bytes. -/
def textOf (xs : List Nat) : ByteArray := strOfNums (xs.map fun x : Nat => Int.ofNat x)
theorem text_of_cells {b o n c : Nat} {xs : List Nat} {w : World} (hxl : xs.length = n) (hs : ∀ j, j < n → w.cell? ⟨b, o + j, none⟩ = some (.int .u8 (byteAt xs j : Nat))) :
    (convert 22 9 (.slice (some ⟨b, o, none⟩) n c)).run Tryd.prog w = .ok (.string (textOf xs)) w :=
  run_convert_bytes_arg w 22 5 Tryd.underlying22 Tryd.underlying5 b o n c (xs.map fun x : Nat => Int.ofNat x) (by simpa using hxl)
    (fun i hi => by
      rw [hs i hi]
      have hx : i < xs.length := by omega
      simp [byteAt, List.getElem?_eq_getElem hx]) 9 Tryd.underlying9
theorem text_of_own {w : World} {base : Nat} {v : Value} {xs : List Nat} (h : Own w base v xs) : (convert 22 9 v).run Tryd.prog w = .ok (.string (textOf xs)) w := by
  rcases Nat.eq_zero_or_pos xs.length with h0 | h0
  · obtain rfl := List.eq_nil_of_length_eq_zero h0
    rcases h.2 with ⟨rfl, _⟩ | ⟨g, cap, cur, rfl, _⟩
    · rw [run_convert_bytes_nil w 22 5 Tryd.underlying22 Tryd.underlying5 0 0 9 Tryd.underlying9]; rfl
    · exact text_of_cells (n := 0) rfl (fun j hj => by omega)
  · obtain ⟨g, cap, cur, rfl, _⟩ := h.form h0
    exact text_of_cells rfl h.cells


#print axioms clone_any
end Go.Proofs.YthmjkcnmmlemgaaDoor
