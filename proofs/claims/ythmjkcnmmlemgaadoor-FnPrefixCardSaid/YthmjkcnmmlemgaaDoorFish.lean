/-
  Plain mathematics of Blowfish and of bcrypt's key schedule, over tables that are told as a function of places (18 numbers, then four times 256). No program in sight. No condition beyond what each lemma states.
-/
import Derived.Test.YthmjkcnmmlemgaaDoorPlain
namespace Go.Proofs.YthmjkcnmmlemgaaDoor

theorem xor_lt32 {a b : Nat} (ha : a < 4294967296) (hb : b < 4294967296) : a ^^^ b < 4294967296 := Nat.xor_lt_two_pow (n := 32) ha hb
/-- The function of a half block. -/
def fF (t : Nat → Nat) (x : Nat) : Nat := ((((t (18 + x / 16777216 % 256) + t (274 + x / 65536 % 256)) % 4294967296) ^^^ t (530 + x / 256 % 256)) + t (786 + x % 256)) % 4294967296
/-- The half blocks behind round i. -/
def feis (t : Nat → Nat) (l r : Nat) : Nat → Nat × Nat
  | 0 => (r, l ^^^ t 0)
  | i + 1 => ((feis t l r i).2, (feis t l r i).1 ^^^ (fF t (feis t l r i).2 ^^^ t (i + 1)))
theorem feis_step {t : Nat → Nat} {l r i a b c : Nat} (h : feis t l r i = (a, b)) (hc : c = a ^^^ (fF t b ^^^ t (i + 1))) : feis t l r (i + 1) = (b, c) := by
  simp [feis, h, hc]
def bfL (t : Nat → Nat) (l r : Nat) : Nat := (feis t l r 16).1 ^^^ t 17
def bfR (t : Nat → Nat) (l r : Nat) : Nat := (feis t l r 16).2

/-- One place turned. -/
def setT (t : Nat → Nat) (i x : Nat) : Nat → Nat := fun j => if j = i then x else t j
theorem setT_swap (t : Nat → Nat) {i j : Nat} (h : i ≠ j) (x y : Nat) : setT (setT t i x) j y = setT (setT t j y) i x := by
  funext k
  simp only [setT]
  by_cases h1 : k = j
  · subst h1
    simp [Ne.symm h]
  · simp [h1]
/-- A byte of a key is taken in, round and round: the number so far, the next place. -/
def stepW (ys : List Nat) (n : Nat) (p : Nat × Nat) : Nat × Nat := ((p.1 * 256 % 4294967296) ||| byteAt ys p.2, if p.2 + 1 < n then p.2 + 1 else 0)
def itW (ys : List Nat) (n : Nat) (p : Nat × Nat) : Nat → Nat × Nat
  | 0 => p
  | k + 1 => stepW ys n (itW ys n p k)
/-- Where word m begins, and that word. -/
def posW (ys : List Nat) (n : Nat) : Nat → Nat
  | 0 => 0
  | m + 1 => (itW ys n (0, posW ys n m) 4).2
def wdW (ys : List Nat) (n m : Nat) : Nat := (itW ys n (0, posW ys n m) 4).1
theorem itW_go {ys : List Nat} {n : Nat} {p : Nat × Nat} {K X J y Y : Nat} (h : itW ys n p K = (X, J)) (hw : J + 1 < n) (hy : y = byteAt ys J) (hY : Y = (X * 256 % 4294967296) ||| y) : itW ys n p (K + 1) = (Y, J + 1) := by
  simp [itW, stepW, h, hw, hy, hY]
theorem itW_wrap {ys : List Nat} {n : Nat} {p : Nat × Nat} {K X J y Y : Nat} (h : itW ys n p K = (X, J)) (hw : ¬ J + 1 < n) (hy : y = byteAt ys J) (hY : Y = (X * 256 % 4294967296) ||| y) : itW ys n p (K + 1) = (Y, 0) := by
  simp [itW, stepW, h, hw, hy, hY]
theorem wd_of {ys : List Nat} {n m X J J0 : Nat} (h0 : posW ys n m = J0) (h : itW ys n (0, J0) 4 = (X, J)) : wdW ys n m = X ∧ posW ys n (m + 1) = J := by
  subst h0
  exact ⟨by rw [wdW, h], by rw [posW, h]⟩
theorem itW_lt {ys : List Nat} {n : Nat} (hn : 0 < n) {p : Nat × Nat} (hp : p.2 < n) : ∀ k, (itW ys n p k).2 < n
  | 0 => hp
  | k + 1 => by
    have := itW_lt hn hp (ys := ys) k
    simp only [itW, stepW]
    split <;> omega
theorem posW_lt {ys : List Nat} {n : Nat} (hn : 0 < n) : ∀ m, posW ys n m < n
  | 0 => hn
  | m + 1 => itW_lt hn (p := (0, posW ys n m)) (posW_lt hn m) 4
/-- The key taken into the first i numbers. -/
def keyT (t kw : Nat → Nat) : Nat → (Nat → Nat)
  | 0 => t
  | i + 1 => setT (keyT t kw i) i (keyT t kw i i ^^^ kw i)
theorem keyT_step {t kw : Nat → Nat} {i P X : Nat} (hP : P = keyT t kw i i) (hX : kw i = X) : keyT t kw (i + 1) = setT (keyT t kw i) i (P ^^^ X) := by
  rw [hP, ← hX]; rfl
/-- The tables and the block when m blocks are laid in; sw: the salt's numbers. -/
def fillT (t sw : Nat → Nat) : Nat → (Nat → Nat) × Nat × Nat
  | 0 => (t, 0, 0)
  | m + 1 => (setT (setT (fillT t sw m).1 (2 * m) (bfL (fillT t sw m).1 ((fillT t sw m).2.1 ^^^ sw (2 * m)) ((fillT t sw m).2.2 ^^^ sw (2 * m + 1)))) (2 * m + 1) (bfR (fillT t sw m).1 ((fillT t sw m).2.1 ^^^ sw (2 * m)) ((fillT t sw m).2.2 ^^^ sw (2 * m + 1))),
      bfL (fillT t sw m).1 ((fillT t sw m).2.1 ^^^ sw (2 * m)) ((fillT t sw m).2.2 ^^^ sw (2 * m + 1)), bfR (fillT t sw m).1 ((fillT t sw m).2.1 ^^^ sw (2 * m)) ((fillT t sw m).2.2 ^^^ sw (2 * m + 1)))
theorem fillT_step {t sw T : Nat → Nat} {m A B X Y a b : Nat} (h : fillT t sw m = (T, A, B)) (hX : X = A ^^^ sw (2 * m)) (hY : Y = B ^^^ sw (2 * m + 1)) (ha : a = bfL T X Y) (hb : b = bfR T X Y) :
    fillT t sw (m + 1) = (setT (setT T (2 * m) a) (2 * m + 1) b, a, b) := by
  subst hX hY ha hb
  simp only [fillT, h]
/-- Tables into which a key and a salt are taken. -/
def expT (t kw sw : Nat → Nat) : Nat → Nat := (fillT (keyT t kw 18) sw 521).1
def noSalt : Nat → Nat := fun _ => 0

/-- The number of four bytes, the highest first. -/
def w4 (B : Nat → Nat) (o : Nat) : Nat := B o * 16777216 ||| B (o + 1) * 65536 ||| B (o + 2) * 256 ||| B (o + 3)
/-- Two numbers' bytes laid in from place o on. -/
def putB (B : Nat → Nat) (o a b : Nat) : Nat → Nat := setT (setT (setT (setT (setT (setT (setT (setT B o (a / 16777216)) (o + 1) (a / 65536 % 256)) (o + 2) (a / 256 % 256)) (o + 3) (a % 256)) (o + 4) (b / 16777216)) (o + 5) (b / 65536 % 256)) (o + 6) (b / 256 % 256)) (o + 7) (b % 256)
/-- The block of eight bytes from place o on, encrypted. -/
def cryB (t B : Nat → Nat) (o : Nat) : Nat → Nat := putB B o (bfL t (w4 B o) (w4 B (o + 4))) (bfR t (w4 B o) (w4 B (o + 4)))
def cryN (t B : Nat → Nat) (o : Nat) : Nat → (Nat → Nat)
  | 0 => B
  | k + 1 => cryB t (cryN t B o k) o
/-- The three blocks of bcrypt's text, m of them encrypted 64 times. -/
def cry3 (t B : Nat → Nat) : Nat → (Nat → Nat)
  | 0 => B
  | m + 1 => cryN t (cry3 t B m) (8 * m) 64
/-- The tables of a key and a salt behind k rounds. -/
def setupT (t0 kw sw : Nat → Nat) : Nat → (Nat → Nat)
  | 0 => expT t0 kw sw
  | k + 1 => expT (expT (setupT t0 kw sw k) kw noSalt) sw noSalt

end Go.Proofs.YthmjkcnmmlemgaaDoor
