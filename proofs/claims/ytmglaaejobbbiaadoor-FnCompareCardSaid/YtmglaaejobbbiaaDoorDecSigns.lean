/-
  Plain mathematics: what was written in signs is read.
-/
import Derived.Test.YtmglaaejobbbiaaDoorB64K
namespace Go.Proofs.YtmglaaejobbbiaaDoor
open Go.RowKit

theorem signs_good {xs : List Nat} (hx : Bytes xs) {j : Nat} (h : j < (8 * xs.length + 5) / 6) : dmap (byteAt (signs xs) j) = six xs j := by
  rw [signs_at h, dmap_sg _ (six_lt hx j)]
theorem signs_bytes {xs : List Nat} (hx : Bytes xs) : Bytes (signs xs) := by
  refine Bytes.of_mem fun y hy => ?_
  simp only [signs, List.mem_map, List.mem_range] at hy
  obtain ⟨m, _, rfl⟩ := hy
  exact sg_lt _ (six_lt hx m)
theorem list_ext {xs ys : List Nat} (hl : xs.length = ys.length) (h : ∀ j, j < xs.length → byteAt xs j = byteAt ys j) : xs = ys := by
  apply List.ext_getElem hl
  intro j h1 h2
  have e := h j h1
  simpa [byteAt, List.getElem?_eq_getElem h1, List.getElem?_eq_getElem h2] using e
theorem sl_of {n : Nat} (h : n % 3 ≠ 0) : ∃ p t, (t = 1 ∨ t = 2) ∧ n = 3 * p + t ∧ (8 * n + 5) / 6 = 4 * p + t + 1 := ⟨n / 3, n % 3, by omega, by omega, by omega⟩
theorem sl_back {n : Nat} (h : n % 3 ≠ 0) : 3 * ((8 * n + 5) / 6 / 4) + (8 * n + 5) / 6 % 4 - 1 = n := by
  obtain ⟨p, t, ht, h1, h2⟩ := sl_of h
  rw [h2]
  omega
theorem sl_four {n : Nat} (h : n % 3 ≠ 0) : (8 * n + 5) / 6 % 4 = 2 ∨ (8 * n + 5) / 6 % 4 = 3 := by
  obtain ⟨p, t, ht, h1, h2⟩ := sl_of h
  rw [h2]
  omega
/-- What was written is read. -/
theorem dec_signs {xs : List Nat} (hx : Bytes xs) (h3 : xs.length % 3 ≠ 0) : dec (signs xs) = xs := by
  have hsl : (signs xs).length = (8 * xs.length + 5) / 6 := signs_length xs
  unfold dec
  refine list_ext (by rw [decL_length, hsl]; exact sl_back h3) fun j hj => ?_
  rw [decL_length, hsl, sl_back h3] at hj
  rw [decL_at (by rw [hsl, sl_back h3]; exact hj)]
  have hv : ∀ m, m < (8 * xs.length + 5) / 6 → dmap (byteAt (padTo (signs xs) (4 - (signs xs).length % 4)) m) = six xs m := by
    intro m hm
    rw [padTo_lt (by rw [hsl]; exact hm), signs_good hx hm]
  obtain ⟨q, r, hr, rfl⟩ : ∃ q r, r < 3 ∧ j = 3 * q + r := ⟨j / 3, j % 3, Nat.mod_lt _ (by decide), by omega⟩
  rw [decB_at _ q r hr]
  have b0 := hx (3 * q)
  have b1 := hx (3 * q + 1)
  have b2 := hx (3 * q + 2)
  rcases (show r = 0 ∨ r = 1 ∨ r = 2 by omega) with rfl | rfl | rfl
  · rw [qb_0, hv (4 * q + 0) (by omega), hv (4 * q + 1) (by omega)]
    simp only [Nat.add_zero]
    rw [six_0, six_1]
    omega
  · rw [qb_1, hv (4 * q + 1) (by omega), hv (4 * q + 2) (by omega), six_1, six_2]
    omega
  · rw [qb_2, hv (4 * q + 2) (by omega), hv (4 * q + 3) (by omega), six_2, six_3]
    omega

end Go.Proofs.YtmglaaejobbbiaaDoor
