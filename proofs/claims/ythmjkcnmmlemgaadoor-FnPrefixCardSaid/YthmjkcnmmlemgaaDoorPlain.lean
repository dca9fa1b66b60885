/-
  Plain mathematics of bcrypt's signs: bits, six-bit numbers, the alphabet, its inverse. No program in sight. No condition beyond what each lemma states.
-/
import Derived.Below
namespace Go.Proofs.YthmjkcnmmlemgaaDoor

/-- Byte i of a list, 0 behind its end. -/
def byteAt (xs : List Nat) (i : Nat) : Nat := xs.getD i 0
/-- Bit k of the bytes, the highest first; 0 behind the end. -/
def bitAt (xs : List Nat) (k : Nat) : Nat := byteAt xs (k / 8) / 2 ^ (7 - k % 8) % 2
/-- The number of t bits from bit i on. -/
def acc (xs : List Nat) (i : Nat) : Nat → Nat
  | 0 => 0
  | t + 1 => 2 * acc xs i t + bitAt xs (i + t)
/-- Sign m's number. -/
def six (xs : List Nat) (m : Nat) : Nat :=
  if m % 4 = 0 then byteAt xs (3 * (m / 4)) / 4
  else if m % 4 = 1 then byteAt xs (3 * (m / 4)) % 4 * 16 + byteAt xs (3 * (m / 4) + 1) / 16
  else if m % 4 = 2 then byteAt xs (3 * (m / 4) + 1) % 16 * 4 + byteAt xs (3 * (m / 4) + 2) / 64
  else byteAt xs (3 * (m / 4) + 2) % 64
/-- All are bytes. -/
def Bytes (xs : List Nat) : Prop := ∀ i, byteAt xs i < 256

theorem Bytes.of_mem {xs : List Nat} (h : ∀ x ∈ xs, x < 256) : Bytes xs := by
  intro i
  unfold byteAt
  rcases Nat.lt_or_ge i xs.length with hi | hi
  · rw [List.getD_eq_getElem?_getD, List.getElem?_eq_getElem hi]; exact h _ (List.getElem_mem hi)
  · rw [List.getD_eq_getElem?_getD, List.getElem?_eq_none hi]; decide
theorem Bytes.mem {xs : List Nat} (h : Bytes xs) : ∀ x ∈ xs, x < 256 := by
  intro x hx
  obtain ⟨i, hi, rfl⟩ := List.mem_iff_getElem.1 hx
  have := h i
  unfold byteAt at this
  rwa [List.getD_eq_getElem?_getD, List.getElem?_eq_getElem hi] at this

theorem byteAt_out {xs : List Nat} {i : Nat} (h : xs.length ≤ i) : byteAt xs i = 0 := by
  unfold byteAt
  rw [List.getD_eq_getElem?_getD, List.getElem?_eq_none h]; rfl
theorem bitAt_out {xs : List Nat} {k : Nat} (h : 8 * xs.length ≤ k) : bitAt xs k = 0 := by
  unfold bitAt
  rw [byteAt_out (by omega)]
  simp

theorem six_0 (xs : List Nat) (q : Nat) : six xs (4 * q) = byteAt xs (3 * q) / 4 := by
  have h1 : 4 * q % 4 = 0 := by omega
  have h2 : 4 * q / 4 = q := by omega
  unfold six; rw [h1, h2]; simp
theorem six_1 (xs : List Nat) (q : Nat) : six xs (4 * q + 1) = byteAt xs (3 * q) % 4 * 16 + byteAt xs (3 * q + 1) / 16 := by
  have h1 : (4 * q + 1) % 4 = 1 := by omega
  have h2 : (4 * q + 1) / 4 = q := by omega
  unfold six; rw [h1, h2]; simp
theorem six_2 (xs : List Nat) (q : Nat) : six xs (4 * q + 2) = byteAt xs (3 * q + 1) % 16 * 4 + byteAt xs (3 * q + 2) / 64 := by
  have h1 : (4 * q + 2) % 4 = 2 := by omega
  have h2 : (4 * q + 2) / 4 = q := by omega
  unfold six; rw [h1, h2]; simp
theorem six_3 (xs : List Nat) (q : Nat) : six xs (4 * q + 3) = byteAt xs (3 * q + 2) % 64 := by
  have h1 : (4 * q + 3) % 4 = 3 := by omega
  have h2 : (4 * q + 3) / 4 = q := by omega
  unfold six; rw [h1, h2]; simp

theorem six_lt {xs : List Nat} (hx : Bytes xs) (m : Nat) : six xs m < 64 := by
  have h0 := hx (3 * (m / 4))
  have h1 := hx (3 * (m / 4) + 1)
  have h2 := hx (3 * (m / 4) + 2)
  unfold six
  split
  · omega
  · split
    · omega
    · split <;> omega

theorem acc_six {xs : List Nat} (hx : Bytes xs) (m : Nat) : acc xs (6 * m) 6 = six xs m := by
  have hq : m = 4 * (m / 4) + m % 4 := by omega
  have hr4 : m % 4 < 4 := by omega
  generalize m / 4 = q at *
  generalize m % 4 = r at *
  subst hq
  have e (k j s : Nat) (h1 : k = 8 * j + s) (h2 : s < 8) : bitAt xs k = byteAt xs j / 2 ^ (7 - s) % 2 := by
    subst h1
    unfold bitAt
    have h3 : (8 * j + s) / 8 = j := by omega
    have h4 : (8 * j + s) % 8 = s := by omega
    rw [h3, h4]
  have h0 := hx (3 * q)
  have h1 := hx (3 * q + 1)
  have h2 := hx (3 * q + 2)
  simp only [acc]
  match r, hr4 with
  | 0, _ =>
    rw [e _ (3*q) 0 (by omega) (by omega), e _ (3*q) 1 (by omega) (by omega), e _ (3*q) 2 (by omega) (by omega), e _ (3*q) 3 (by omega) (by omega), e _ (3*q) 4 (by omega) (by omega), e _ (3*q) 5 (by omega) (by omega)]
    rw [show 4 * q + 0 = 4 * q from rfl, six_0]
    simp
    omega
  | 1, _ =>
    rw [e _ (3*q) 6 (by omega) (by omega), e _ (3*q) 7 (by omega) (by omega), e _ (3*q+1) 0 (by omega) (by omega), e _ (3*q+1) 1 (by omega) (by omega), e _ (3*q+1) 2 (by omega) (by omega), e _ (3*q+1) 3 (by omega) (by omega), six_1]
    simp
    omega
  | 2, _ =>
    rw [e _ (3*q+1) 4 (by omega) (by omega), e _ (3*q+1) 5 (by omega) (by omega), e _ (3*q+1) 6 (by omega) (by omega), e _ (3*q+1) 7 (by omega) (by omega), e _ (3*q+2) 0 (by omega) (by omega), e _ (3*q+2) 1 (by omega) (by omega), six_2]
    simp
    omega
  | 3, _ =>
    rw [e _ (3*q+2) 2 (by omega) (by omega), e _ (3*q+2) 3 (by omega) (by omega), e _ (3*q+2) 4 (by omega) (by omega), e _ (3*q+2) 5 (by omega) (by omega), e _ (3*q+2) 6 (by omega) (by omega), e _ (3*q+2) 7 (by omega) (by omega), six_3]
    simp
    omega

theorem bitAt_lt (xs : List Nat) (k : Nat) : bitAt xs k < 2 := Nat.mod_lt _ (by decide)
theorem acc_lt (xs : List Nat) (i : Nat) : ∀ t, acc xs i t < 2 ^ t
  | 0 => by simp [acc]
  | t + 1 => by
    have h := acc_lt xs i t
    have h2 := bitAt_lt xs (i + t)
    simp only [acc, Nat.pow_succ]
    omega
theorem acc_le (xs : List Nat) (i t : Nat) (ht : t ≤ 6) : acc xs i t < 64 := by
  have h := acc_lt xs i t
  have h2 : 2 ^ t ≤ 2 ^ 6 := Nat.pow_le_pow_right (by decide) ht
  omega

/-- The alphabet. -/
def alphaL : List Nat := [46, 47, 65, 66, 67, 68, 69, 70, 71, 72, 73, 74, 75, 76, 77, 78, 79, 80, 81, 82, 83, 84, 85, 86, 87, 88, 89, 90, 97, 98, 99, 100, 101, 102, 103, 104, 105, 106, 107, 108, 109, 110, 111, 112, 113, 114, 115, 116, 117, 118, 119, 120, 121, 122, 48, 49, 50, 51, 52, 53, 54, 55, 56, 57]
def sg (n : Nat) : Nat := alphaL.getD n 0
/-- A sign's number; 255 for what is no sign. -/
def dmap (c : Nat) : Nat :=
  if c = 46 then 0 else if c = 47 then 1 else if 65 ≤ c ∧ c ≤ 90 then c - 63 else if 97 ≤ c ∧ c ≤ 122 then c - 69 else if 48 ≤ c ∧ c ≤ 57 then c + 6 else 255
theorem dmap_sg : ∀ n, n < 64 → dmap (sg n) = n := by decide
theorem sg_dmap : ∀ c, c < 256 → dmap c < 64 → sg (dmap c) = c := by decide +kernel
theorem dmap_or : ∀ c, c < 256 → dmap c < 64 ∨ dmap c = 255 := by decide +kernel
theorem sg_lt : ∀ n, n < 64 → sg n < 256 := by decide
theorem sg_ne : ∀ n, n < 64 → sg n ≠ 61 ∧ sg n ≠ 10 ∧ sg n ≠ 13 := by decide
/-- The decode map when k signs are laid in. -/
def dmapK (k c : Nat) : Nat := if dmap c < k then dmap c else 255
theorem dmapK_0 (c : Nat) : dmapK 0 c = 255 := by simp [dmapK]
theorem dmapK_64 (c : Nat) (h : c < 256) : dmapK 64 c = dmap c := by
  unfold dmapK; have := dmap_or c h; split <;> omega
theorem dmapK_at (k : Nat) (h : k < 64) : dmapK k (sg k) = 255 := by unfold dmapK; rw [dmap_sg k h]; simp
theorem dmapK_succ (k c : Nat) (h : k < 64) (hc : c < 256) : dmapK (k + 1) c = if c = sg k then k else dmapK k c := by
  unfold dmapK
  by_cases e : c = sg k
  · subst e; rw [dmap_sg k h]; simp
  · rw [if_neg e]
    have h1 : dmap c ≠ k := fun e' => e (by rw [← e', sg_dmap c hc (by have := dmap_or c hc; omega)])
    by_cases h2 : dmap c < k
    · rw [if_pos h2, if_pos (by omega)]
    · rw [if_neg h2, if_neg (by omega)]

/-- The bytes of a padded text of signs: its m-th. -/
def enc (xs : List Nat) (m : Nat) : Nat := if m < (8 * xs.length + 5) / 6 then sg (six xs m) else 61
/-- The text of signs. -/
def signs (xs : List Nat) : List Nat := (List.range ((8 * xs.length + 5) / 6)).map fun m => sg (six xs m)
theorem signs_length (xs : List Nat) : (signs xs).length = (8 * xs.length + 5) / 6 := by simp [signs]

end Go.Proofs.YthmjkcnmmlemgaaDoor
