/-
  spec.word: the number of four bytes; spec.words: two numbers' bytes in new memory; nothing that was there turns.
-/
import Derived.Test.YthmjkcnmmlemgaaDoorWord
import Derived.Test.YthmjkcnmmlemgaaDoorSrc
import Derived.Test.YthmjkcnmmlemgaaDoorCyc
import Derived.BigQuiet
import Derived.Deep.QuietTactic
namespace Go.Proofs.YthmjkcnmmlemgaaDoor
open Go.RowKit

theorem w4_lt {B : Nat → Nat} {o : Nat} (h : ∀ i, i < 4 → B (o + i) < 256) : w4 B o < 4294967296 := (word4 _ _ _ _ (h 0 (by decide)) (h 1 (by decide)) (h 2 (by decide)) (h 3 (by decide))).2

set_option maxHeartbeats 4000000 in
set_option maxRecDepth 100000 in
theorem word_any (g o n c : Nat) (B : Nat → Nat) (w : World) (hn : 4 ≤ n) (hb : ∀ i, i < 4 → B (o + i) < 256 ∧ w.cell? ⟨g, o + i, none⟩ = some (.int .u8 (B (o + i) : Nat))) :
    Calls Tryd.prog 16 #[.slice (some ⟨g, o, none⟩) n c] w fun e w' => e = .returned (.int .u32 (w4 B o : Nat)) ∧ ∃ k, w' = w.drewN k := by
  obtain ⟨y0, hy0⟩ : ∃ y, y = B o := ⟨_, rfl⟩
  obtain ⟨m0, r0⟩ := hb 0 (by decide)
  obtain ⟨y1, hy1⟩ : ∃ y, y = B (o + 1) := ⟨_, rfl⟩
  obtain ⟨m1, r1⟩ := hb 1 (by decide)
  obtain ⟨y2, hy2⟩ : ∃ y, y = B (o + 2) := ⟨_, rfl⟩
  obtain ⟨m2, r2⟩ := hb 2 (by decide)
  obtain ⟨y3, hy3⟩ : ∃ y, y = B (o + 3) := ⟨_, rfl⟩
  obtain ⟨m3, r3⟩ := hb 3 (by decide)
  rw [Nat.add_zero, ← hy0] at m0 r0
  rw [← hy1] at m1 r1
  rw [← hy2] at m2 r2
  rw [← hy3] at m3 r3
  have HW : Hid (w4 B o = y0 * 16777216 ||| y1 * 65536 ||| y2 * 256 ||| y3) := hid (by rw [w4, hy0, hy1, hy2, hy3])
  clear hy0 hy1 hy2 hy3 hb
  have k0 : (0 : Int) < (n : Int) := by omega
  have k1 : (1 : Int) < (n : Int) := by omega
  have k2 : (2 : Int) < (n : Int) := by omega
  have k3 : (3 : Int) < (n : Int) := by omega
  have HQ := hid (word4 y0 y1 y2 y3 m0 m1 m2 m3).1
  go_enter Tryd.func16, Tryd.ntmps16
  go_wp2_with fail
  go_quiet (fail)
  go_wp2_with fail
  go_ret
  exact ⟨by rw [HW.out]; exact congrArg (fun x => Ending.returned (Value.int .u32 x)) HQ.out, _, rfl⟩
#print axioms word_any

/-- A number's four bytes, the highest first. -/
def b4 (x : Nat) : List Nat := [x / 16777216, x / 65536 % 256, x / 256 % 256, x % 256]
theorem b4_bytes {x : Nat} (hx : x < 4294967296) : Bytes (b4 x) := Bytes.of_mem (by
  intro y hy
  simp only [b4, List.mem_cons, List.not_mem_nil, or_false] at hy
  omega)
theorem bytes_append {xs ys : List Nat} (h : Bytes xs) (k : Bytes ys) : Bytes (xs ++ ys) := Bytes.of_mem fun x hx => by
  rcases List.mem_append.1 hx with hx | hx
  · exact h.mem x hx
  · exact k.mem x hx
theorem vals_b4 (x : Nat) : #[Value.int .u8 ((x : Int) / 16777216), .int .u8 ((x : Int) / 65536 % 256), .int .u8 ((x : Int) / 256 % 256), .int .u8 ((x : Int) % 256)].toList = valsOf (b4 x) := by
  simp [valsOf, b4]

/-- The bytes of the first m numbers of two. -/
def b4s (x y m : Nat) : List Nat := if m = 0 then [] else if m = 1 then b4 x else b4 x ++ b4 y

set_option maxHeartbeats 4000000 in
set_option maxRecDepth 100000 in
theorem words_any (g c x y : Nat) (w : World) (hx : x < 4294967296) (hy : y < 4294967296) (h0 : w.cell? ⟨g, 0, none⟩ = some (.int .u32 (x : Nat))) (h1 : w.cell? ⟨g, 1, none⟩ = some (.int .u32 (y : Nat))) :
    Calls Tryd.prog 18 #[.slice (some ⟨g, 0, none⟩) 2 c] w (OwnPost (b4 x ++ b4 y) w) := by
  have hg : g < w.heap.size := block_lt_of_cell h0
  have HC := hid (And.intro h0 h1)
  clear h0 h1
  go_enter Tryd.func18, Tryd.ntmps18
  go_wp2_with fail
  go_loopw [3, 9] (fun v i wr => ∃ m : Nat, m ≤ 2 ∧ i = .int .i64 (m : Nat) ∧ Hid (Own wr w.heap.size v (b4s x y m) ∧ Below w.heap.size w wr)) (fun _ i _ => 2 - (intOf i).toNat)
  case atStart => exact ⟨0, by decide, rfl, hid ⟨own_empty w _ (Nat.le_refl _), (Below.refl _ _).alloc (Nat.le_refl _) _⟩⟩
  case round =>
    obtain ⟨m, hm, rfl, hE⟩ := hrel
    by_cases hlt : m < 2
    · obtain ⟨z, hz⟩ : ∃ z, z = if m = 0 then x else y := ⟨_, rfl⟩
      have bz : z < 4294967296 := by rw [hz]; split <;> omega
      have cz : wr.cell? ⟨g, m, none⟩ = some (.int .u32 (z : Nat)) := by
        rw [hE.out.2.cell (p := ⟨g, m, none⟩) hg, hz]
        rcases (show m = 0 ∨ m = 1 by omega) with rfl | rfl
        · exact HC.out.1
        · exact HC.out.2
      have HZ := hid hz
      clear hz
      have hbl := hE.out.2.size
      go_wp2_with ((with_reducible refine atOp (o := ⟨some 26, _, _, _, _, _⟩) ?_); refine wpList_append_bytes rfl (.tmp 13) (.tmp 25) rfl w.heap.size _ (b4s x y m) rfl (World.ownsRow.alloc hE.out.1 _) (some ⟨wr.heap.size, 0, none⟩) 4 4 (b4 z) rfl (by simp) (wr.heap.size + 1) (srcB_made (b4_bytes bz) (vals_b4 z)) (by unfold b4s; split <;> (try split) <;> simp [b4]) (by simp; omega) ?_; intro v5 w5 hv5 hg5)
      go_roundw
      case rel =>
        refine ⟨m + 1, by omega, by go_num, hid ⟨?_, ?_⟩⟩
        · have e : b4s x y (m + 1) = b4s x y m ++ b4 z := by
            rw [HZ.out]
            rcases (show m = 0 ∨ m = 1 by omega) with rfl | rfl <;> simp [b4s]
          rw [e]
          exact hv5.out
        · exact (hE.out.2.alloc hE.out.2.size _).trans (below_own (World.ownsRow.alloc hE.out.1 _) hg5.out (by simp; omega))
      case measure => simp only [intOf]; omega
    · obtain rfl : m = 2 := by omega
      have hE2 := hid hE.out
      clear hE
      go_wp2_with fail
      go_ret
      exact ⟨_, rfl, hE2.out.1, hE2.out.2⟩
#print axioms words_any
end Go.Proofs.YthmjkcnmmlemgaaDoor
