/-
  spec.mixed and spec.crypt: over the tables t of a State they give what Blowfish's sixteen rounds give (fF, bfL, bfR in YthmjkcnmmlemgaaDoorFish); they only read.
-/
import Derived.Test.YthmjkcnmmlemgaaDoorRow
import Derived.Test.YthmjkcnmmlemgaaDoorFish
import Derived.BigQuiet
import Derived.Deep.QuietTactic
namespace Go.Proofs.YthmjkcnmmlemgaaDoor
open Go.RowKit

/-- The tables t of a State at block g. -/
def Sta (w : World) (g : Nat) (t : Nat → Nat) : Prop := ∃ cs, w.heap[g]? = some (.cells cs 30 (0, 0)) ∧ cs.size = 1042 ∧ ∀ i, i < 1042 → t i < 4294967296 ∧ cs[i]? = some (.int .u32 (t i : Nat))
theorem Sta.cell {w : World} {g : Nat} {t : Nat → Nat} (h : Sta w g t) {i : Nat} (hi : i < 1042) : w.cell? ⟨g, i, none⟩ = some (.int .u32 (t i : Nat)) := by
  obtain ⟨cs, hr, hs, hc⟩ := h
  exact (row_cell hr i).trans (hc i hi).2
theorem Sta.free {w : World} {g : Nat} {t : Nat → Nat} (h : Sta w g t) (i : Nat) : w.frozen? ⟨g, i, none⟩ = false := by
  obtain ⟨cs, hr, hs, hc⟩ := h
  exact row_free hr i
theorem Sta.lt {w : World} {g : Nat} {t : Nat → Nat} (h : Sta w g t) {i : Nat} (hi : i < 1042) : t i < 4294967296 := by
  obtain ⟨cs, hr, hs, hc⟩ := h
  exact (hc i hi).1
theorem Sta.in {w : World} {g : Nat} {t : Nat → Nat} (h : Sta w g t) : g < w.heap.size := by
  obtain ⟨cs, hr, hs, hc⟩ := h
  exact row_lt hr
theorem Sta.drew {w : World} {g : Nat} {t : Nat → Nat} (h : Sta w g t) (k : Nat) : Sta (w.drewN k) g t := h
theorem Sta.set {w : World} {g : Nat} {t : Nat → Nat} (h : Sta w g t) (i x : Nat) (hx : x < 4294967296) : Sta (w.setCell ⟨g, i, none⟩ (.int .u32 (x : Nat))) g (setT t i x) := by
  obtain ⟨cs, hr, hs, hc⟩ := h
  refine ⟨_, row_set hr i _, by simpa using hs, fun j hj => ?_⟩
  rw [Array.getElem?_setIfInBounds]
  by_cases e : j = i
  · subst e
    simp only [setT, if_true]
    exact ⟨hx, by rw [if_pos (by omega)]⟩
  · rw [if_neg (fun h => e h.symm)]
    simp only [setT, if_neg e]
    exact hc j hj
theorem Sta.grown {w w' : World} {g : Nat} {t : Nat → Nat} {row : Option Nat} (h : Sta w g t) (hg : w.grownBy w' row) (hr : some g ≠ row) : Sta w' g t := by
  obtain ⟨cs, h1, h2, h3⟩ := h
  exact ⟨cs, (hg.block g (row_lt h1) hr).trans h1, h2, h3⟩

theorem and255 (x d : Nat) : bits BinOp.and IntKind.u32 ((x : Int) / (d : Int)) 255 = ((x / d % 256 : Nat) : Int) ∨ 4294967296 ≤ x / d := by
  rcases Nat.lt_or_ge (x / d) 4294967296 with h | h
  · left
    have e : ((x : Int) / (d : Int)) = ((x / d : Nat) : Int) := by simp
    rw [e, show (255 : Int) = ((255 : Nat) : Int) from rfl, u32_and_nat _ _ h (by decide)]
    congr 1
    exact Nat.and_two_pow_sub_one_eq_mod (x / d) 8
  · exact .inr h
theorem and255_of {x d : Nat} (hx : x < 4294967296) : bits BinOp.and IntKind.u32 ((x : Int) / (d : Int)) 255 = ((x / d % 256 : Nat) : Int) := by
  rcases and255 x d with h | h
  · exact h
  · have := Nat.div_le_self x d
    omega

set_option maxHeartbeats 4000000 in
set_option maxRecDepth 100000 in
theorem mixed_any (g x : Nat) (t : Nat → Nat) (w : World) (hx : x < 4294967296) (hs : Sta w g t) :
    Calls Tryd.prog 23 #[.pointer (some ⟨g, 0, none⟩), .int .u32 (x : Nat)] w fun e w' => e = .returned (.int .u32 (fF t x : Nat)) ∧ ∃ k, w' = w.drewN k := by
  have H := hid hs
  clear hs
  obtain ⟨y0, hy0⟩ : ∃ y, y = x / 16777216 % 256 := ⟨_, rfl⟩
  obtain ⟨y1, hy1⟩ : ∃ y, y = x / 65536 % 256 := ⟨_, rfl⟩
  obtain ⟨y2, hy2⟩ : ∃ y, y = x / 256 % 256 := ⟨_, rfl⟩
  obtain ⟨y3, hy3⟩ : ∃ y, y = x % 256 := ⟨_, rfl⟩
  have m0 : y0 < 256 := by omega
  have m1 : y1 < 256 := by omega
  have m2 : y2 < 256 := by omega
  have m3 : y3 < 256 := by omega
  have z0 : (x : Int) / 16777216 = (y0 : Int) := by omega
  have z1 : bits BinOp.and IntKind.u32 ((x : Int) / 65536) 255 = (y1 : Int) := by rw [hy1]; exact and255_of (d := 65536) hx
  have z2 : bits BinOp.and IntKind.u32 ((x : Int) / 256) 255 = (y2 : Int) := by rw [hy2]; exact and255_of (d := 256) hx
  have z3 : bits BinOp.and IntKind.u32 (x : Int) 255 = (y3 : Int) := by rw [hy3]; have h := and255_of (d := 1) hx; simpa using h
  have l0 : (y0 : Int) < 256 := by omega
  have l1 : (y1 : Int) < 256 := by omega
  have l2 : (y2 : Int) < 256 := by omega
  have l3 : (y3 : Int) < 256 := by omega
  have c0 : w.cell? ⟨g, 18 + y0, none⟩ = _ := H.out.cell (i := 18 + y0) (by omega)
  have c1 : w.cell? ⟨g, 274 + y1, none⟩ = _ := H.out.cell (i := 274 + y1) (by omega)
  have c2 : w.cell? ⟨g, 530 + y2, none⟩ = _ := H.out.cell (i := 530 + y2) (by omega)
  have c3 : w.cell? ⟨g, 786 + y3, none⟩ = _ := H.out.cell (i := 786 + y3) (by omega)
  have HF : Hid (fF t x = (((((t (18 + y0) + t (274 + y1)) % 4294967296) ^^^ t (530 + y2)) + t (786 + y3)) % 4294967296)) := hid (by unfold fF; rw [hy0, hy1, hy2, hy3])
  have b2 := H.out.lt (i := 530 + y2) (by omega)
  obtain ⟨A, hA⟩ : ∃ A, A = t (18 + y0) := ⟨_, rfl⟩
  obtain ⟨B, hB⟩ : ∃ A, A = t (274 + y1) := ⟨_, rfl⟩
  obtain ⟨C, hC⟩ : ∃ A, A = t (530 + y2) := ⟨_, rfl⟩
  obtain ⟨D, hD⟩ : ∃ A, A = t (786 + y3) := ⟨_, rfl⟩
  rw [← hA] at c0
  rw [← hB] at c1
  rw [← hC] at c2 b2
  rw [← hD] at c3
  rw [← hA, ← hB, ← hC, ← hD] at HF
  clear hA hB hC hD hy0 hy1 hy2 hy3
  have e1 : (((A : Int) + (B : Int)) % 4294967296) = (((A + B) % 4294967296 : Nat) : Int) := by omega
  have e2 : bits BinOp.xor IntKind.u32 (((A : Int) + (B : Int)) % 4294967296) (C : Int) = ((((A + B) % 4294967296) ^^^ C : Nat) : Int) := by rw [e1, u32_xor_nat _ _ (Nat.mod_lt _ (by decide)) b2]
  clear e1
  go_enter Tryd.func23, Tryd.ntmps23
  go_wp2_with fail
  go_quiet (fail)
  go_wp2_with fail
  go_ret
  refine ⟨?_, _, rfl⟩
  rw [HF.out]
  simp

/-- Between two rounds of crypt. -/
theorem crypt_step' {t : Nat → Nat} {l r i R A R' : Nat} (h : feis t l r i = (R, A)) (hR : R' = R ^^^ fF t A) : feis t l r (i + 1) = (A, R' ^^^ t (i + 1)) := by
  subst hR
  rw [feis_step h rfl, Nat.xor_assoc]

def CryPost (t : Nat → Nat) (l r : Nat) (w : World) (e : Ending) (w' : World) : Prop := ∃ a b : Nat, a < 4294967296 ∧ b < 4294967296 ∧ a = bfL t l r ∧ b = bfR t l r ∧ e = .returned (.tuple #[.int .u32 (a : Nat), .int .u32 (b : Nat)]) ∧ ∃ k, w' = w.drewN k

set_option maxHeartbeats 4000000 in
set_option maxRecDepth 100000 in
theorem crypt_any (g l r : Nat) (t : Nat → Nat) (w : World) (hl : l < 4294967296) (hr : r < 4294967296) (hs : Sta w g t) :
    Calls Tryd.prog 17 #[.pointer (some ⟨g, 0, none⟩), .int .u32 (l : Nat), .int .u32 (r : Nat)] w (CryPost t l r w) := by
  have H := hid hs
  clear hs
  go_enter Tryd.func17, Tryd.ntmps17
  go_wp2_with fail
  go_loopw [1, 2, 8] (fun a b i wr => ∃ L R I k : Nat, L < 4294967296 ∧ R < 4294967296 ∧ I ≤ 16 ∧ a = .int .u32 (L : Nat) ∧ b = .int .u32 (R : Nat) ∧ i = .int .i64 (I : Nat) ∧ Hid (feis t l r I = (R, L ^^^ t I)) ∧ wr = w.drewN k) (fun _ _ i _ => 16 - (intOf i).toNat)
  case atStart => exact ⟨l, r, 0, 0, hl, hr, by decide, rfl, rfl, rfl, hid rfl, rfl⟩
  case round =>
    obtain ⟨L, R, I, k, hL, hR, hI, rfl, rfl, rfl, hF, rfl⟩ := hrel
    by_cases hlt : I < 16
    · have pc : w.cell? ⟨g, I, none⟩ = _ := H.out.cell (i := I) (by omega)
      have pb := H.out.lt (i := I) (by omega)
      obtain ⟨P, hP⟩ : ∃ P, P = t I := ⟨_, rfl⟩
      rw [← hP] at pc pb hF
      clear hP
      have ex := u32_xor_nat L P hL pb
      obtain ⟨A, hA⟩ : ∃ A, A = L ^^^ P := ⟨_, rfl⟩
      have bA : A < 4294967296 := by rw [hA]; exact xor_lt32 hL pb
      rw [← hA] at ex
      rw [← hA] at hF
      have HA := hid hA
      clear hA
      go_wp2_with fail
      refine Calls.mono (mixed_any g A t (w.drewN k) bA H.out) ?_
      rintro e w1 ⟨rfl, k2, rfl⟩
      have bF : fF t A < 4294967296 := Nat.mod_lt _ (by decide)
      obtain ⟨F, hF2⟩ : ∃ F, F = fF t A := ⟨_, rfl⟩
      rw [← hF2] at bF ⊢
      have ey := u32_xor_nat R F hR bF
      obtain ⟨R', hR'⟩ : ∃ A, A = R ^^^ F := ⟨_, rfl⟩
      have bR' : R' < 4294967296 := by rw [hR']; exact xor_lt32 hR bF
      rw [← hR'] at ey
      have HR := hid (show R' = R ^^^ fF t A by rw [hR', hF2])
      clear hR' hF2
      go_wp2_with fail
      go_roundw
      case rel => exact ⟨R', A, I + 1, k + k2, bR', bA, by omega, rfl, rfl, by go_num, hid (crypt_step' hF.out HR.out), rfl⟩
      case measure => simp only [intOf]; omega
    · have HI : Hid (I = 16) := hid (by omega)
      have p17 : w.cell? ⟨g, 17, none⟩ = _ := H.out.cell (i := 17) (by decide)
      have b17 := H.out.lt (i := 17) (by decide)
      have p16 : w.cell? ⟨g, 16, none⟩ = _ := H.out.cell (i := 16) (by decide)
      have b16 := H.out.lt (i := 16) (by decide)
      obtain ⟨P, hP⟩ : ∃ P, P = t 17 := ⟨_, rfl⟩
      obtain ⟨Q, hQ⟩ : ∃ P, P = t 16 := ⟨_, rfl⟩
      rw [← hP] at p17 b17
      rw [← hQ] at p16 b16
      have HP := hid (And.intro hP hQ)
      clear hP hQ
      have ex := u32_xor_nat R P hR b17
      have ey := u32_xor_nat L Q hL b16
      have HE : Hid (R ^^^ P = bfL t l r ∧ L ^^^ Q = bfR t l r) := hid (by
        have h := hF.out
        rw [HI.out] at h
        unfold bfL bfR
        rw [h, HP.out.1, HP.out.2]
        exact ⟨rfl, rfl⟩)
      clear hF
      go_upto_region 7 with fail
      go_quiet (fail)
      go_wp2_with fail
      go_ret2
      exact ⟨_, _, xor_lt32 hR b17, xor_lt32 hL b16, HE.out.1, HE.out.2, rfl, _, World.drewN_drewN _ _ _⟩
#print axioms mixed_any
#print axioms crypt_any
end Go.Proofs.YthmjkcnmmlemgaaDoor
