/-
  NewEncoding and bcEncoding: a new block that holds the alphabet, its inverse, the sign of filling and 'false'. For the alphabet of bcrypt alone.
-/
import Derived.Test.YtmglaaejobbbiaaDoorProg
import Derived.Test.YtmglaaejobbbiaaDoorMem
import Derived.Test.YtmglaaejobbbiaaDoorPlain
import Derived.WalkKit
import Derived.WalkSpells
import Derived.WalkLawsBesides
import Derived.KernelRfl
import Derived.BigQuiet
import Derived.Deep.CutBlock
import Derived.Deep.DeepCutAuto
import Derived.Deep.QuietTactic
namespace Go.Proofs.YtmglaaejobbbiaaDoor
open Go.RowKit

/-- The cells of an Encoding in which k signs are laid. -/
def encL (k : Nat) : List Value := (List.range 64).map (fun i => Value.int .u8 (sg i : Nat)) ++ ((List.range 256).map (fun c => Value.int .u8 (dmapK k c : Nat)) ++ [Value.int .i32 61, Value.bool false])
def encCells (k : Nat) : Array Value := (encL k).toArray
theorem encCells_size (k : Nat) : (encCells k).size = 322 := by simp [encCells, encL]
theorem encCells_sign (k i : Nat) (h : i < 64) : (encCells k)[i]? = some (.int .u8 (sg i : Nat)) := by
  simp [encCells, encL, List.getElem?_append_left, h]
theorem encCells_map (k c : Nat) (h : c < 256) : (encCells k)[64 + c]? = some (.int .u8 (dmapK k c : Nat)) := by
  simp only [encCells, encL, List.getElem?_toArray]
  rw [List.getElem?_append_right (by simp)]
  rw [List.getElem?_append_left (by simp; omega)]
  simp [h]
theorem encCells_pad (k : Nat) : (encCells k)[320]? = some (.int .i32 61) := by
  simp only [encCells, encL, List.getElem?_toArray]
  rw [List.getElem?_append_right (by simp), List.getElem?_append_right (by simp)]
  simp
theorem encCells_strict (k : Nat) : (encCells k)[321]? = some (.bool false) := by
  simp only [encCells, encL, List.getElem?_toArray]
  rw [List.getElem?_append_right (by simp), List.getElem?_append_right (by simp)]
  simp
theorem encCells_set (k : Nat) (h : k < 64) : (encCells k).setIfInBounds (64 + sg k) (.int .u8 (k : Nat)) = encCells (k + 1) := by
  have hs := sg_lt k h
  apply Array.ext
  · simp [encCells_size]
  · intro i h1 h2
    have h3 : i < 322 := by rw [encCells_size] at h2; exact h2
    rw [Array.getElem_setIfInBounds (by simpa [encCells_size] using h3)]
    have e : ∀ j, (hj : i < (encCells j).size) → (encCells j)[i]'hj = ((encCells j)[i]?).getD undef := by
      intro j hj; rw [Array.getElem?_eq_getElem hj]; rfl
    rw [e (k + 1) h2, e k (by rw [encCells_size]; exact h3)]
    rcases Nat.lt_or_ge i 64 with h4 | h4
    · rw [if_neg (by omega), encCells_sign _ i h4, encCells_sign _ i h4]
    · rcases Nat.lt_or_ge i 320 with h5 | h5
      · obtain ⟨c, rfl⟩ : ∃ c, i = 64 + c := ⟨i - 64, by omega⟩
        rw [encCells_map k c (by omega), encCells_map (k + 1) c (by omega), dmapK_succ k c h (by omega)]
        by_cases hc : c = sg k
        · rw [if_pos (by omega), if_pos hc]; rfl
        · rw [if_neg (by omega), if_neg hc]
      · rw [if_neg (by omega)]
        rcases (show i = 320 ∨ i = 321 by omega) with rfl | rfl
        · rw [encCells_pad, encCells_pad]
        · rw [encCells_strict, encCells_strict]

/-- The block of an Encoding as NewEncoding leaves it. -/
def IsEnc (w : World) (g : Nat) : Prop := w.heap[g]? = some (.cells (encCells 64) 74 (0, 0))
theorem IsEnc.sign {w : World} {g : Nat} (h : IsEnc w g) (i : Nat) (hi : i < 64) : w.cell? ⟨g, i, none⟩ = some (.int .u8 (sg i : Nat)) := (row_cell h i).trans (encCells_sign 64 i hi)
theorem IsEnc.dec {w : World} {g : Nat} (h : IsEnc w g) (c : Nat) (hc : c < 256) : w.cell? ⟨g, 64 + c, none⟩ = some (.int .u8 (dmap c : Nat)) := by
  rw [← dmapK_64 c hc]; exact (row_cell h _).trans (encCells_map 64 c hc)
theorem IsEnc.pad {w : World} {g : Nat} (h : IsEnc w g) : w.cell? ⟨g, 320, none⟩ = some (.int .i32 61) := (row_cell h _).trans (encCells_pad 64)
theorem IsEnc.strict {w : World} {g : Nat} (h : IsEnc w g) : w.cell? ⟨g, 321, none⟩ = some (.bool false) := (row_cell h _).trans (encCells_strict 64)
theorem IsEnc.lt {w : World} {g : Nat} (h : IsEnc w g) : g < w.heap.size := row_lt h
theorem IsEnc.of_block {w w' : World} {g : Nat} (h : IsEnc w g) (hb : w'.heap[g]? = w.heap[g]?) : IsEnc w' g := hb.trans h
theorem IsEnc.grown {w w' : World} {g : Nat} {row : Option Nat} (h : IsEnc w g) (hb : w.grownBy w' row) (hr : some g ≠ row) : IsEnc w' g := h.of_block (hb.block g h.lt hr)

theorem infoEnc : (Tryd.prog.info? 74).map (fun i => (i.zero, i.size, i.bytes)) = some (some (.agg (((List.replicate 320 (Value.int .u8 0)) ++ [Value.int .i32 0, Value.bool false]).toArray)), 322, 328) := by kernel_rfl
theorem infoU8 : (Tryd.prog.info? 5).map (fun i => (i.zero, i.size, i.bytes)) = some (some (.int .u8 0), 1, 1) := by kernel_rfl
theorem sizeU8 : (Tryd.prog.info? 5).map (·.size) = some 1 := by kernel_rfl

def zeroCells : Array Value := ((List.replicate 320 (Value.int .u8 0)) ++ [Value.int .i32 0, Value.bool false]).toArray
def alphaB : ByteArray := ⟨#[46, 47, 65, 66, 67, 68, 69, 70, 71, 72, 73, 74, 75, 76, 77, 78, 79, 80, 81, 82, 83, 84, 85, 86, 87, 88, 89, 90, 97, 98, 99, 100, 101, 102, 103, 104, 105, 106, 107, 108, 109, 110, 111, 112, 113, 114, 115, 116, 117, 118, 119, 120, 121, 122, 48, 49, 50, 51, 52, 53, 54, 55, 56, 57]⟩
theorem alphaB_size : alphaB.size = 64 := by decide
theorem alphaB_at : ∀ k, (h : k < 64) → (alphaB[k]'(by rw [alphaB_size]; exact h)).toNat = sg k := by decide
theorem first_tail : (zeroCells.setIfInBounds 320 (.int .i32 61)).toList.drop 64 = (List.replicate 256 (Value.int .u8 0)) ++ [Value.int .i32 61, Value.bool false] := by kernel_rfl
/-- The block behind the first copy. -/
theorem first_cells (s : ByteArray) (h64 : s.size = 64) (hs : ∀ k (h : k < s.size), s[k].toNat = sg k) :
    (zeroCells.setIfInBounds 320 (.int .i32 61)).toList.take 0 ++ Lib.byteCells s.data.toList ++ (zeroCells.setIfInBounds 320 (.int .i32 61)).toList.drop (0 + s.size) =
      (List.range 64).map (fun i => Value.int .u8 (sg i : Nat)) ++ ((List.replicate 256 (Value.int .u8 0)) ++ [Value.int .i32 61, Value.bool false]) := by
  have h1 : Lib.byteCells s.data.toList = (List.range 64).map (fun i => Value.int .u8 (sg i : Nat)) := by
    apply List.ext_getElem
    · simp [Lib.byteCells_length]; exact h64
    · intro i h1 h2
      have hi : i < s.size := by rw [h64]; simpa using h2
      have := hs i hi
      simp only [Lib.byteCells, List.getElem_map, List.getElem_range]
      rw [← this]
      rfl
  rw [h1, h64]
  simp only [List.take_zero, List.nil_append, Nat.zero_add]
  exact congrArg _ first_tail

theorem splice_mid {α : Type} (A B C X : List α) (m n : Nat) (hm : A.length = m) (hn : B.length = n) : (A ++ (B ++ C)).take m ++ X ++ (A ++ (B ++ C)).drop (m + n) = A ++ (X ++ C) := by
  subst hm; subst hn
  rw [List.take_left, List.append_assoc, ← List.append_assoc A B C, ← List.length_append, List.drop_left]
theorem bytes_replicate (s : ByteArray) (n v : Nat) (hv : v < 256) (h : s.data.toList = List.replicate n (UInt8.ofNat v)) (f : Nat → Nat) (hf : ∀ c, c < n → f c = v) :
    s.size = n ∧ Lib.byteCells s.data.toList = (List.range n).map (fun c => Value.int .u8 (f c : Nat)) := by
  refine ⟨?_, ?_⟩
  · have : s.size = s.data.toList.length := Lib.size_eq s
    rw [this, h, List.length_replicate]
  · rw [h]
    unfold Lib.byteCells
    apply List.ext_getElem
    · simp
    · intro i h1 h2
      have hi : i < n := by simpa using h2
      simp [hf i hi, Nat.mod_eq_of_lt hv]
/-- The block behind the second copy: no sign is laid yet. -/
theorem second_cells (s : ByteArray) (h256 : s.data.toList = List.replicate 256 (UInt8.ofNat 255)) :
    ((List.range 64).map (fun i => Value.int .u8 (sg i : Nat)) ++ ((List.replicate 256 (Value.int .u8 0)) ++ [Value.int .i32 61, Value.bool false])).toArray.toList.take 64 ++ Lib.byteCells s.data.toList ++
      ((List.range 64).map (fun i => Value.int .u8 (sg i : Nat)) ++ ((List.replicate 256 (Value.int .u8 0)) ++ [Value.int .i32 61, Value.bool false])).toArray.toList.drop (64 + s.size) = encL 0 := by
  obtain ⟨h1, h2⟩ := bytes_replicate s 256 255 (by decide) h256 (dmapK 0) (fun c _ => dmapK_0 c)
  rw [h2, h1]
  exact splice_mid _ _ _ _ 64 256 (by rw [List.length_map, List.length_range]) (by rw [List.length_replicate])

theorem cells_320 : zeroCells[320]? = some (.int .i32 0) := by kernel_rfl
theorem zero_size : (zeroCells.setIfInBounds 320 (.int .i32 61)).size = 322 := by kernel_rfl

def rowA : Array Value := ((List.range 64).map (fun i => Value.int .u8 (sg i : Nat)) ++ ((List.replicate 256 (Value.int .u8 0)) ++ [Value.int .i32 61, Value.bool false])).toArray
theorem rowA_size : rowA.size = 322 := by unfold rowA; rw [List.size_toArray, List.length_append, List.length_append, List.length_map, List.length_range, List.length_replicate]; rfl

theorem second_le {s : ByteArray} (h : s.data.size = 256) : s.size ≤ 256 := Nat.le_of_eq h
theorem second_fit {s : ByteArray} (h : s.data.size = 256) : 64 + s.size ≤ rowA.size := by rw [rowA_size]; have h2 : s.size = 256 := h; omega
set_option maxHeartbeats 1000000 in
set_option maxRecDepth 100000 in
theorem newEncoding (s : ByteArray) (h64 : s.size = 64) (hs : ∀ k (h : k < s.size), s[k].toNat = sg k) (w : World) :
    Calls Tryd.prog 31 #[.string s] w fun e w' => e = .returned (.pointer (some ⟨w.heap.size, 0, none⟩)) ∧ IsEnc w' w.heap.size ∧ w.grownBy w' none := by
  obtain ⟨i, hi, hz, _, _⟩ := info_parts infoEnc
  have hne : ((s.size : Int) != 64) = false := by rw [h64]; rfl
  have H64 := hid h64
  have HS := hid hs
  clear h64 hs
  go_enter Tryd.func31, Tryd.ntmps31
  go_upto_region 6 with (first
    | (with_reducible refine wpList_alloc_row rfl 74 rfl i hi _ hz zeroCells rfl ?_; intro w1 hg1 hs1 hb1; have c1 := (row_cell hg1.out 320).trans cells_320; have f1 := row_free hg1.out 320)
    | ((with_reducible refine atOp (o := ⟨some 18, _, _, _, _, _⟩) ?_); refine wpList_copy_string rfl (.tmp 16) (.tmp 17) 22 9 rfl 5 Tryd.underlying22 sizeU8 w.heap.size 0 64 64 s rfl rfl _ _ (row_set hg1.out 320 (.int .i32 61)) (Nat.le_of_eq H64.out) (by rw [H64.out, zero_size]; decide) rowA (congrArg List.toArray (first_cells s H64.out HS.out)) ?_; intro w2 hg2 hs2 hb2))
  go_upto_region 7 with (((with_reducible refine atOp (o := ⟨some 23, _, _, _, _, _⟩) ?_); refine wpList_copy_string rfl (.tmp 22) _ 22 9 rfl 5 Tryd.underlying22 sizeU8 w.heap.size 64 256 256 _ rfl rfl rowA _ hg2.out (second_le (by kernel_rfl)) (second_fit (by kernel_rfl)) (encCells 0) (congrArg List.toArray (second_cells _ (by kernel_rfl))) ?_; intro w3 hg3 hs3 hb3))
  have hb := hid (grown_new (grown_new (grown_new hb1.out (grown_setCell w1 w.heap.size 320 (.int .i32 61)) (Nat.le_refl _)) hb2.out (Nat.le_refl _)) hb3.out (Nat.le_refl _))
  have hsz : w.heap.size < w3.heap.size := by rw [hs3, hs2]; simpa using hs1
  clear hg1 hg2 hb1 hb2 hb3 hs1 hs2 hs3 c1 f1
  go_wp2_with fail
  go_loopw [4] (fun i wr => ∃ k : Nat, k ≤ 64 ∧ i = .int .i64 k ∧ Hid (wr.heap[w.heap.size]? = some (.cells (encCells k) 74 (0, 0))) ∧ Hid (w.grownBy wr none))
    (fun i _ => 64 - (intOf i).toNat)
  case atStart => exact ⟨0, by omega, rfl, hg3, hb⟩
  case round =>
    obtain ⟨k, hk, rfl, hg, hgr⟩ := hrel
    by_cases hlt : k < 64
    · have hls : k < s.size := by rw [H64.out]; exact hlt
      have hsg := HS.out k hls
      have hlo := sg_lt k hlt
      have hne := sg_ne k hlt
      have e10 : ((sg k : Int) == 10) = false := by rw [beq_eq_false_iff_ne]; omega
      have e13 : ((sg k : Int) == 13) = false := by rw [beq_eq_false_iff_ne]; omega
      have hc := (row_cell hg.out (64 + sg k)).trans (encCells_map k (sg k) hlo)
      rw [dmapK_at k hlt] at hc
      have hf := row_free hg.out (64 + sg k)
      have hi1 : (0 : Int) ≤ (sg k : Int) := by omega
      have hi2 : (sg k : Int) < 256 := by omega
      clear hne
      go_wp2_with fail
      go_quiet (fail)
      go_wp2_with fail
      go_region
      go_wp2_with fail
      go_roundw
      case rel =>
        refine ⟨k + 1, by omega, by go_num, ?_, ?_⟩
        · have e := row_set hg.out (64 + sg k) (.int .u8 (k : Nat))
          rw [encCells_set k hlt] at e
          exact hid e
        · exact hid (grown_new hgr.out (grown_trans (grown_drewN wr (some w.heap.size) _) (grown_setCell _ w.heap.size _ _)) (Nat.le_refl _))
      case measure => simp [intOf]; omega
    · obtain rfl : k = 64 := by omega
      have hlt2 : ¬ (64 < s.size) := by rw [H64.out]; omega
      go_wp2_with fail
      go_ret
      exact ⟨rfl, hg.out, hgr.out⟩

set_option maxHeartbeats 1000000 in
theorem bcEncoding (w : World) :
    Calls Tryd.prog 23 #[] w fun e w' => e = .returned (.pointer (some ⟨w.heap.size, 0, none⟩)) ∧ IsEnc w' w.heap.size ∧ w.grownBy w' none := by
  have H := newEncoding alphaB alphaB_size (fun k h => alphaB_at k (by rw [alphaB_size] at h; exact h)) w
  unfold alphaB at H
  have H2 := hid H
  clear H
  go_enter Tryd.func23, Tryd.ntmps23
  go_wp2_with fail
  refine H2.out.mono ?_
  rintro e w1 ⟨rfl, h1, h2⟩
  have h3 := hid (And.intro h1 h2)
  clear h1 h2
  go_wp2_with fail
  go_ret
  exact ⟨rfl, h3.out.1, h3.out.2⟩

#print axioms bcEncoding
end Go.Proofs.YtmglaaejobbbiaaDoor
