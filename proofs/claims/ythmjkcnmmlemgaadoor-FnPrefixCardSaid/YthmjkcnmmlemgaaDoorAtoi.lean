/-
  strconv.Atoi of two digits: their number, and no error; a new row alone is laid.
-/
import Derived.Test.YthmjkcnmmlemgaaDoorRow
import Derived.Lib.ConvBytes
import Derived.Lib.Strings
import Derived.Lib.AtoiErrMem
import Derived.Lib.ItoaWalk
import Derived.Laws.Strings3
import Derived.BigGuard
namespace Go.Proofs.YthmjkcnmmlemgaaDoor
open Go.RowKit

/-- The bytes of two digits. -/
def dig2 (q r : Nat) : List UInt8 := [UInt8.ofNat (48 + q), UInt8.ofNat (48 + r)]
theorem dig2_at {q r k : Nat} (hq : q < 10) (hr : r < 10) (hk : k < 2) : ((dig2 q r).getD k 0).toNat = if k = 0 then 48 + q else 48 + r := by
  rcases (show k = 0 ∨ k = 1 by omega) with rfl | rfl
  · simp [dig2]; omega
  · simp [dig2]; omega

set_option maxHeartbeats 4000000 in
set_option maxRecDepth 100000 in
theorem atoi_in (s : ByteArray) (q r : Nat) (w : World) (hq : q < 10) (hr : r < 10) (hl : s.data.toList = dig2 q r) :
    Calls Tryd.prog 29 #[.string s] w fun e w' => e = .returned (.tuple #[.int .i64 ((10 * q + r : Nat) : Int), .nilIface]) ∧ Below w.heap.size w w' := by
  have hsz : s.size = 2 := by rw [Lib.size_eq, hl]; rfl
  have hpos : 0 < s.size := by omega
  obtain ⟨b0, hb0⟩ : ∃ b0, b0 = UInt8.ofNat (48 + q) := ⟨_, rfl⟩
  have hs0 : s[0]'hpos = b0 := by have := Lib.getD_at s 0 hpos; rw [hl] at this; rw [hb0]; exact this
  have hbn : b0.toNat = 48 + q := by rw [hb0]; simp; omega
  have h45 : ((b0.toNat : Int) == 45) = false := by rw [beq_eq_false_iff_ne]; omega
  have h43 : ((b0.toNat : Int) == 43) = false := by rw [beq_eq_false_iff_ne]; omega
  have hcv := Lib.run_convert_string_bytes (P := Tryd.prog) w 9 22 5 s (u := .string) Tryd.underlying9 Tryd.underlying22 Tryd.underlying5
  have hB : ∀ j, j < s.size → (Lib.bytesWorld w 5 s).cell? ⟨w.heap.size, j, none⟩ = some (.int .u8 (s.data.toList.getD j 0).toNat) := fun j hj => Lib.bytesWorld_cell w 5 s j hj
  have hbel := Lib.bytesWorld_below w 5 s
  obtain ⟨W1, hW1⟩ : ∃ W1, W1 = Lib.bytesWorld w 5 s := ⟨_, rfl⟩
  rw [← hW1] at hcv hB hbel
  rw [hl, hsz] at hB
  have HB := hid hB
  have HBL := hid hbel
  clear hW1 hB hbel hb0 hbn hl
  go_enter Tryd.func29, Tryd.ntmps29
  go_wp2
  go_loop [49, 6] (fun vi vn => ∃ (k acc : Nat), k ≤ 2 ∧ vi = .int .i64 k ∧ vn = .int .i64 acc ∧ acc < 100 ∧ Hid (acc = if k = 0 then 0 else if k = 1 then q else 10 * q + r)) (fun vi _ => 2 - (RowKit.intOf vi).toNat)
  case atStart => exact ⟨0, 0, by decide, rfl, rfl, by decide, hid rfl⟩
  case round =>
    obtain ⟨k, acc, hk, rfl, rfl, hacc, hA⟩ := hrel
    by_cases hkn : k < 2
    · obtain ⟨x, hx⟩ : ∃ x, x = if k = 0 then 48 + q else 48 + r := ⟨_, rfl⟩
      have hc1 : W1.cell? ⟨w.heap.size, k, none⟩ = some (.int .u8 (x : Nat)) := by rw [HB.out k hkn, dig2_at hq hr hkn, ← hx]
      have h48 : 48 ≤ x := by rw [hx]; split <;> omega
      have h57 : x ≤ 57 := by rw [hx]; split <;> omega
      have HX := hid hx
      have hacc2 : acc < 10 := by rw [hA.out]; split <;> (try split) <;> omega
      clear hx
      go_wp2
      go_round
      case rel =>
        refine ⟨k + 1, acc * 10 + (x - 48), by omega, by go_num, by first | go_num | (congr 1; omega), by omega, ?_⟩
        have h1 := HX.out
        have h2 := hA.out
        refine hid ?_
        rcases (show k = 0 ∨ k = 1 by omega) with rfl | rfl
        · simp at h1 h2 ⊢; omega
        · simp at h1 h2 ⊢; omega
      case measure => simp [RowKit.intOf]; omega
    · have hke : k = 2 := by omega
      subst hke
      have hfin := hA.out
      simp at hfin
      subst hfin
      go_wp2
      go_ret2
      exact ⟨rfl, HBL.out⟩

set_option maxHeartbeats 1000000 in
theorem atoi_two (s : ByteArray) (q r : Nat) (w : World) (hq : q < 10) (hr : r < 10) (hl : s.data.toList = dig2 q r) :
    Calls Tryd.prog 27 #[.string s] w fun e w' => e = .returned (.tuple #[.int .i64 ((10 * q + r : Nat) : Int), .nilIface]) ∧ Below w.heap.size w w' := by
  have H := hid (atoi_in s q r w hq hr hl)
  clear hl
  go_enter Tryd.func27, Tryd.ntmps27
  go_wp2_with fail
  refine H.out.mono ?_
  rintro e w1 ⟨rfl, hb⟩
  have HB := hid hb
  clear hb
  go_wp2_with fail
  go_ret2
  exact ⟨rfl, HB.out⟩
#print axioms atoi_two
end Go.Proofs.YthmjkcnmmlemgaaDoor
