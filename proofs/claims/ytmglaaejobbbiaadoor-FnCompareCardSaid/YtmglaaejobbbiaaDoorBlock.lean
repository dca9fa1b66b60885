/-
  encryptBlock: over whatever tables of numbers of 32 bits it gives the two numbers that Blowfish's sixteen rounds give; it only reads.
-/
import Derived.Test.YtmglaaejobbbiaaDoorRow
import Derived.Test.YtmglaaejobbbiaaDoorFish
import Derived.BigQuiet
import Derived.Deep.QuietTactic
namespace Go.Proofs.YtmglaaejobbbiaaDoor
open Go.RowKit

/-- The cipher at block gc: 1042 numbers of 32 bits (p in 0 .. 17, s0 from 18 on, s1 from 274, s2 from 530, s3 from 786). -/
def Cip (w : World) (gc : Nat) (t : Nat → Nat) : Prop := ∃ cs, w.heap[gc]? = some (.cells cs 81 (0, 0)) ∧ cs.size = 1042 ∧ ∀ i, i < 1042 → t i < 4294967296 ∧ cs[i]? = some (.int .u32 (t i : Nat))
theorem Cip.cell {w : World} {gc : Nat} {t : Nat → Nat} (h : Cip w gc t) {i : Nat} (hi : i < 1042) : w.cell? ⟨gc, i, none⟩ = some (.int .u32 (t i : Nat)) := by
  obtain ⟨cs, hr, hs, hc⟩ := h
  exact (row_cell hr i).trans (hc i hi).2
theorem Cip.free {w : World} {gc : Nat} {t : Nat → Nat} (h : Cip w gc t) (i : Nat) : w.frozen? ⟨gc, i, none⟩ = false := by
  obtain ⟨cs, hr, hs, hc⟩ := h
  exact row_free hr i
theorem Cip.lt {w : World} {gc : Nat} {t : Nat → Nat} (h : Cip w gc t) {i : Nat} (hi : i < 1042) : t i < 4294967296 := by
  obtain ⟨cs, hr, hs, hc⟩ := h
  exact (hc i hi).1
theorem Cip.in {w : World} {gc : Nat} {t : Nat → Nat} (h : Cip w gc t) : gc < w.heap.size := by
  obtain ⟨cs, hr, hs, hc⟩ := h
  exact row_lt hr
theorem Cip.drew {w : World} {gc : Nat} {t : Nat → Nat} (h : Cip w gc t) (k : Nat) : Cip (w.drewN k) gc t := h
/-- One number is stored. -/
theorem Cip.set {w : World} {gc : Nat} {t : Nat → Nat} (h : Cip w gc t) (i x : Nat) (hx : x < 4294967296) : Cip (w.setCell ⟨gc, i, none⟩ (.int .u32 (x : Nat))) gc (setT t i x) := by
  obtain ⟨cs, hr, hs, hc⟩ := h
  refine ⟨_, row_set hr i _, by simpa using hs, fun j hj => ?_⟩
  rw [Array.getElem?_setIfInBounds]
  by_cases e : j = i
  · subst e
    simp only [setT, if_true]
    exact ⟨hx, by rw [if_pos (by omega)]⟩
  · rw [if_neg (fun h => e h.symm)]
    simp only [setT, if_neg e]
    exact hc j hj
theorem Cip.grown {w w' : World} {gc : Nat} {t : Nat → Nat} {row : Option Nat} (h : Cip w gc t) (hg : w.grownBy w' row) (hr : some gc ≠ row) : Cip w' gc t := by
  obtain ⟨cs, h1, h2, h3⟩ := h
  exact ⟨cs, (hg.block gc (row_lt h1) hr).trans h1, h2, h3⟩

theorem bf_step (A B C D P r : Nat) (hC : C < 4294967296) (hP : P < 4294967296) (hr : r < 4294967296) :
    bits BinOp.xor IntKind.u32 (r : Int) (bits BinOp.xor IntKind.u32 ((bits BinOp.xor IntKind.u32 (((A : Int) + (B : Int)) % 4294967296) (C : Int) + (D : Int)) % 4294967296) (P : Int)) =
      ((r ^^^ ((((((A + B) % 4294967296) ^^^ C) + D) % 4294967296) ^^^ P) : Nat) : Int) := by
  have e1 : ((A : Int) + (B : Int)) % 4294967296 = (((A + B) % 4294967296 : Nat) : Int) := by omega
  rw [e1, u32_xor_nat _ _ (Nat.mod_lt _ (by decide)) hC]
  generalize ((A + B) % 4294967296) ^^^ C = E
  have e2 : ((E : Int) + (D : Int)) % 4294967296 = (((E + D) % 4294967296 : Nat) : Int) := by omega
  rw [e2, u32_xor_nat _ _ (Nat.mod_lt _ (by decide)) hP, u32_xor_nat _ _ hr (xor_lt32 (Nat.mod_lt _ (by decide)) hP)]
theorem bf_lt {E P r : Nat} (hP : P < 4294967296) (hr : r < 4294967296) : r ^^^ ((E % 4294967296) ^^^ P) < 4294967296 := xor_lt32 hr (xor_lt32 (Nat.mod_lt _ (by decide)) hP)

theorem w8_of (x d : Nat) : IntKind.u8.wrap ((x : Int) / (d : Int)) = ((x / d % 256 : Nat) : Int) := by
  have e : ((x : Int) / (d : Int)) = ((x / d : Nat) : Int) := by simp
  rw [e]
  simp [IntKind.wrap, IntKind.signed, IntKind.bits]
theorem w8_low (x : Nat) : IntKind.u8.wrap (x : Int) = ((x % 256 : Nat) : Int) := by simp [IntKind.wrap, IntKind.signed, IntKind.bits]

theorem bf_val (t : Nat → Nat) (x y0 y1 y2 y3 P r : Nat) (h0 : y0 = x / 16777216 % 256) (h1 : y1 = x / 65536 % 256) (h2 : y2 = x / 256 % 256) (h3 : y3 = x % 256) (hC : t (530 + y2) < 4294967296) (hP : P < 4294967296) (hr : r < 4294967296) :
    bits BinOp.xor IntKind.u32 (r : Int) (bits BinOp.xor IntKind.u32 ((bits BinOp.xor IntKind.u32 (((t (18 + y0) : Int) + (t (274 + y1) : Int)) % 4294967296) (t (530 + y2) : Int) + (t (786 + y3) : Int)) % 4294967296) (P : Int)) = ((r ^^^ (fF t x ^^^ P) : Nat) : Int) := by
  subst h0 h1 h2 h3
  exact bf_step _ _ _ _ _ _ hC hP hr
/-- What encryptBlock leaves. -/
def EncPair (t : Nat → Nat) (l r : Nat) (w : World) (e : Ending) (w' : World) : Prop := ∃ a b : Nat, a < 4294967296 ∧ b < 4294967296 ∧ a = bfL t l r ∧ b = bfR t l r ∧ e = .returned (.tuple #[.int .u32 (a : Nat), .int .u32 (b : Nat)]) ∧ ∃ k, w' = w.drewN k

set_option maxHeartbeats 8000000 in
set_option maxRecDepth 100000 in
theorem encryptBlock_any (gc xl xr : Nat) (t : Nat → Nat) (w : World) (hl : xl < 4294967296) (hr : xr < 4294967296) (hc : Cip w gc t) :
    Calls Tryd.prog 30 #[.int .u32 (xl : Nat), .int .u32 (xr : Nat), .pointer (some ⟨gc, 0, none⟩)] w (EncPair t xl xr w) := by
  have HC := hid hc
  have p0 := hc.cell (i := 0) (by decide)
  have b0 := hc.lt (i := 0) (by decide)
  clear hc
  obtain ⟨P0, hP0⟩ : ∃ P, P = t 0 := ⟨_, rfl⟩
  rw [← hP0] at p0 b0
  have HP0 := hid hP0
  clear hP0
  have x0 := u32_xor_nat xl P0 hl b0
  go_enter Tryd.func30, Tryd.ntmps30
  go_upto_region 3 with fail
  obtain ⟨X0, hX⟩ : ∃ X, X = xl ^^^ P0 := ⟨_, rfl⟩
  rw [← hX]
  have h0 : X0 < 4294967296 := by rw [hX]; exact xor_lt32 hl b0
  have HF0 : Hid (feis t xl xr 0 = (xr, X0)) := by rw [hX, HP0.out]; exact rfl
  clear hX x0 p0
  go_cut [9] from 19 to 60 (fun v wx => ∃ x : Nat, x < 4294967296 ∧ Hid (x = xr ^^^ (fF t X0 ^^^ t 1)) ∧ v = .int .u32 (x : Nat) ∧ ∃ k, wx = w.drewN k)
  case first => as_aux_lemma =>
    have c0 : (w).cell? ⟨gc, 18 + X0 / 16777216, none⟩ = _ := HC.out.cell (i := 18 + X0 / 16777216) (by omega)
    have c1 : (w).cell? ⟨gc, 274 + X0 / 65536 % 256, none⟩ = _ := HC.out.cell (i := 274 + X0 / 65536 % 256) (by omega)
    have c2 : (w).cell? ⟨gc, 530 + X0 / 256 % 256, none⟩ = _ := HC.out.cell (i := 530 + X0 / 256 % 256) (by omega)
    have c3 : (w).cell? ⟨gc, 786 + X0 % 256, none⟩ = _ := HC.out.cell (i := 786 + X0 % 256) (by omega)
    have c4 : (w).cell? ⟨gc, 1, none⟩ = _ := HC.out.cell (i := 1) (by decide)
    go_quiet (fail)
    go_wp2_with fail
    go_meet
    exact ⟨xr ^^^ (fF t X0 ^^^ t 1), xor_lt32 hr (xor_lt32 (Nat.mod_lt _ (by decide)) (HC.out.lt (i := 1) (by decide))), hid rfl, congrArg _ (bf_val t X0 (X0 / 16777216) (X0 / 65536 % 256) (X0 / 256 % 256) (X0 % 256) (t 1) xr (by omega) rfl rfl rfl (HC.out.lt (i := 530 + X0 / 256 % 256) (by omega)) (HC.out.lt (i := 1) (by decide)) hr), by first | exact ⟨_, rfl⟩ | exact ⟨_, World.drewN_drewN _ _ _⟩⟩
  case rest =>
    obtain ⟨X1, g1, e1, rfl, k1, rfl⟩ := hcut
    have h1 : X1 < 4294967296 := g1
    have HF1 := hid (feis_step HF0.out e1.out)
    clear g1 e1 HF0
    go_upto_region 4 with fail
    go_cut [8] from 61 to 102 (fun v wx => ∃ x : Nat, x < 4294967296 ∧ Hid (x = X0 ^^^ (fF t X1 ^^^ t 2)) ∧ v = .int .u32 (x : Nat) ∧ ∃ k, wx = w.drewN k)
    case first => as_aux_lemma =>
      have z0 : IntKind.u8.wrap ((X1 : Int) / 16777216) = ((X1 / 16777216 % 256 : Nat) : Int) := w8_of X1 16777216
      obtain ⟨y0, hy0⟩ : ∃ y, y = X1 / 16777216 % 256 := ⟨_, rfl⟩
      have m0 : y0 < 256 := by omega
      rw [← hy0] at z0
      have c0 : (w).cell? ⟨gc, 18 + y0, none⟩ = _ := HC.out.cell (i := 18 + y0) (by omega)
      have q0 := hid hy0
      clear hy0
      have l0 : (y0 : Int) < 256 := by omega
      have z1 : IntKind.u8.wrap ((X1 : Int) / 65536) = ((X1 / 65536 % 256 : Nat) : Int) := w8_of X1 65536
      obtain ⟨y1, hy1⟩ : ∃ y, y = X1 / 65536 % 256 := ⟨_, rfl⟩
      have m1 : y1 < 256 := by omega
      rw [← hy1] at z1
      have c1 : (w).cell? ⟨gc, 274 + y1, none⟩ = _ := HC.out.cell (i := 274 + y1) (by omega)
      have q1 := hid hy1
      clear hy1
      have l1 : (y1 : Int) < 256 := by omega
      have z2 : IntKind.u8.wrap ((X1 : Int) / 256) = ((X1 / 256 % 256 : Nat) : Int) := w8_of X1 256
      obtain ⟨y2, hy2⟩ : ∃ y, y = X1 / 256 % 256 := ⟨_, rfl⟩
      have m2 : y2 < 256 := by omega
      rw [← hy2] at z2
      have c2 : (w).cell? ⟨gc, 530 + y2, none⟩ = _ := HC.out.cell (i := 530 + y2) (by omega)
      have q2 := hid hy2
      clear hy2
      have l2 : (y2 : Int) < 256 := by omega
      have z3 : IntKind.u8.wrap ((X1 : Int)) = ((X1 % 256 : Nat) : Int) := w8_low X1
      obtain ⟨y3, hy3⟩ : ∃ y, y = X1 % 256 := ⟨_, rfl⟩
      have m3 : y3 < 256 := by omega
      rw [← hy3] at z3
      have c3 : (w).cell? ⟨gc, 786 + y3, none⟩ = _ := HC.out.cell (i := 786 + y3) (by omega)
      have q3 := hid hy3
      clear hy3
      have l3 : (y3 : Int) < 256 := by omega
      have c4 : (w).cell? ⟨gc, 2, none⟩ = _ := HC.out.cell (i := 2) (by decide)
      go_quiet (fail)
      go_wp2_with fail
      go_meet
      exact ⟨X0 ^^^ (fF t X1 ^^^ t 2), xor_lt32 h0 (xor_lt32 (Nat.mod_lt _ (by decide)) (HC.out.lt (i := 2) (by decide))), hid rfl, congrArg _ (bf_val t X1 y0 y1 y2 y3 (t 2) X0 q0.out q1.out q2.out q3.out (HC.out.lt (i := 530 + y2) (by omega)) (HC.out.lt (i := 2) (by decide)) h0), by first | exact ⟨_, rfl⟩ | exact ⟨_, World.drewN_drewN _ _ _⟩⟩
    case rest =>
      obtain ⟨X2, g2, e2, rfl, k2, rfl⟩ := hcut
      have h2 : X2 < 4294967296 := g2
      have HF2 := hid (feis_step HF1.out e2.out)
      clear g2 e2 HF1
      go_upto_region 5 with fail
      go_cut [9] from 103 to 144 (fun v wx => ∃ x : Nat, x < 4294967296 ∧ Hid (x = X1 ^^^ (fF t X2 ^^^ t 3)) ∧ v = .int .u32 (x : Nat) ∧ ∃ k, wx = w.drewN k)
      case first => as_aux_lemma =>
        have z0 : IntKind.u8.wrap ((X2 : Int) / 16777216) = ((X2 / 16777216 % 256 : Nat) : Int) := w8_of X2 16777216
        obtain ⟨y0, hy0⟩ : ∃ y, y = X2 / 16777216 % 256 := ⟨_, rfl⟩
        have m0 : y0 < 256 := by omega
        rw [← hy0] at z0
        have c0 : (w).cell? ⟨gc, 18 + y0, none⟩ = _ := HC.out.cell (i := 18 + y0) (by omega)
        have q0 := hid hy0
        clear hy0
        have l0 : (y0 : Int) < 256 := by omega
        have z1 : IntKind.u8.wrap ((X2 : Int) / 65536) = ((X2 / 65536 % 256 : Nat) : Int) := w8_of X2 65536
        obtain ⟨y1, hy1⟩ : ∃ y, y = X2 / 65536 % 256 := ⟨_, rfl⟩
        have m1 : y1 < 256 := by omega
        rw [← hy1] at z1
        have c1 : (w).cell? ⟨gc, 274 + y1, none⟩ = _ := HC.out.cell (i := 274 + y1) (by omega)
        have q1 := hid hy1
        clear hy1
        have l1 : (y1 : Int) < 256 := by omega
        have z2 : IntKind.u8.wrap ((X2 : Int) / 256) = ((X2 / 256 % 256 : Nat) : Int) := w8_of X2 256
        obtain ⟨y2, hy2⟩ : ∃ y, y = X2 / 256 % 256 := ⟨_, rfl⟩
        have m2 : y2 < 256 := by omega
        rw [← hy2] at z2
        have c2 : (w).cell? ⟨gc, 530 + y2, none⟩ = _ := HC.out.cell (i := 530 + y2) (by omega)
        have q2 := hid hy2
        clear hy2
        have l2 : (y2 : Int) < 256 := by omega
        have z3 : IntKind.u8.wrap ((X2 : Int)) = ((X2 % 256 : Nat) : Int) := w8_low X2
        obtain ⟨y3, hy3⟩ : ∃ y, y = X2 % 256 := ⟨_, rfl⟩
        have m3 : y3 < 256 := by omega
        rw [← hy3] at z3
        have c3 : (w).cell? ⟨gc, 786 + y3, none⟩ = _ := HC.out.cell (i := 786 + y3) (by omega)
        have q3 := hid hy3
        clear hy3
        have l3 : (y3 : Int) < 256 := by omega
        have c4 : (w).cell? ⟨gc, 3, none⟩ = _ := HC.out.cell (i := 3) (by decide)
        go_quiet (fail)
        go_wp2_with fail
        go_meet
        exact ⟨X1 ^^^ (fF t X2 ^^^ t 3), xor_lt32 h1 (xor_lt32 (Nat.mod_lt _ (by decide)) (HC.out.lt (i := 3) (by decide))), hid rfl, congrArg _ (bf_val t X2 y0 y1 y2 y3 (t 3) X1 q0.out q1.out q2.out q3.out (HC.out.lt (i := 530 + y2) (by omega)) (HC.out.lt (i := 3) (by decide)) h1), by first | exact ⟨_, rfl⟩ | exact ⟨_, World.drewN_drewN _ _ _⟩⟩
      case rest =>
        obtain ⟨X3, g3, e3, rfl, k3, rfl⟩ := hcut
        have h3 : X3 < 4294967296 := g3
        have HF3 := hid (feis_step HF2.out e3.out)
        clear g3 e3 HF2
        go_upto_region 6 with fail
        go_cut [8] from 145 to 186 (fun v wx => ∃ x : Nat, x < 4294967296 ∧ Hid (x = X2 ^^^ (fF t X3 ^^^ t 4)) ∧ v = .int .u32 (x : Nat) ∧ ∃ k, wx = w.drewN k)
        case first => as_aux_lemma =>
          have z0 : IntKind.u8.wrap ((X3 : Int) / 16777216) = ((X3 / 16777216 % 256 : Nat) : Int) := w8_of X3 16777216
          obtain ⟨y0, hy0⟩ : ∃ y, y = X3 / 16777216 % 256 := ⟨_, rfl⟩
          have m0 : y0 < 256 := by omega
          rw [← hy0] at z0
          have c0 : (w).cell? ⟨gc, 18 + y0, none⟩ = _ := HC.out.cell (i := 18 + y0) (by omega)
          have q0 := hid hy0
          clear hy0
          have l0 : (y0 : Int) < 256 := by omega
          have z1 : IntKind.u8.wrap ((X3 : Int) / 65536) = ((X3 / 65536 % 256 : Nat) : Int) := w8_of X3 65536
          obtain ⟨y1, hy1⟩ : ∃ y, y = X3 / 65536 % 256 := ⟨_, rfl⟩
          have m1 : y1 < 256 := by omega
          rw [← hy1] at z1
          have c1 : (w).cell? ⟨gc, 274 + y1, none⟩ = _ := HC.out.cell (i := 274 + y1) (by omega)
          have q1 := hid hy1
          clear hy1
          have l1 : (y1 : Int) < 256 := by omega
          have z2 : IntKind.u8.wrap ((X3 : Int) / 256) = ((X3 / 256 % 256 : Nat) : Int) := w8_of X3 256
          obtain ⟨y2, hy2⟩ : ∃ y, y = X3 / 256 % 256 := ⟨_, rfl⟩
          have m2 : y2 < 256 := by omega
          rw [← hy2] at z2
          have c2 : (w).cell? ⟨gc, 530 + y2, none⟩ = _ := HC.out.cell (i := 530 + y2) (by omega)
          have q2 := hid hy2
          clear hy2
          have l2 : (y2 : Int) < 256 := by omega
          have z3 : IntKind.u8.wrap ((X3 : Int)) = ((X3 % 256 : Nat) : Int) := w8_low X3
          obtain ⟨y3, hy3⟩ : ∃ y, y = X3 % 256 := ⟨_, rfl⟩
          have m3 : y3 < 256 := by omega
          rw [← hy3] at z3
          have c3 : (w).cell? ⟨gc, 786 + y3, none⟩ = _ := HC.out.cell (i := 786 + y3) (by omega)
          have q3 := hid hy3
          clear hy3
          have l3 : (y3 : Int) < 256 := by omega
          have c4 : (w).cell? ⟨gc, 4, none⟩ = _ := HC.out.cell (i := 4) (by decide)
          go_quiet (fail)
          go_wp2_with fail
          go_meet
          exact ⟨X2 ^^^ (fF t X3 ^^^ t 4), xor_lt32 h2 (xor_lt32 (Nat.mod_lt _ (by decide)) (HC.out.lt (i := 4) (by decide))), hid rfl, congrArg _ (bf_val t X3 y0 y1 y2 y3 (t 4) X2 q0.out q1.out q2.out q3.out (HC.out.lt (i := 530 + y2) (by omega)) (HC.out.lt (i := 4) (by decide)) h2), by first | exact ⟨_, rfl⟩ | exact ⟨_, World.drewN_drewN _ _ _⟩⟩
        case rest =>
          obtain ⟨X4, g4, e4, rfl, k4, rfl⟩ := hcut
          have h4 : X4 < 4294967296 := g4
          have HF4 := hid (feis_step HF3.out e4.out)
          clear g4 e4 HF3
          go_upto_region 7 with fail
          go_cut [9] from 187 to 228 (fun v wx => ∃ x : Nat, x < 4294967296 ∧ Hid (x = X3 ^^^ (fF t X4 ^^^ t 5)) ∧ v = .int .u32 (x : Nat) ∧ ∃ k, wx = w.drewN k)
          case first => as_aux_lemma =>
            have z0 : IntKind.u8.wrap ((X4 : Int) / 16777216) = ((X4 / 16777216 % 256 : Nat) : Int) := w8_of X4 16777216
            obtain ⟨y0, hy0⟩ : ∃ y, y = X4 / 16777216 % 256 := ⟨_, rfl⟩
            have m0 : y0 < 256 := by omega
            rw [← hy0] at z0
            have c0 : (w).cell? ⟨gc, 18 + y0, none⟩ = _ := HC.out.cell (i := 18 + y0) (by omega)
            have q0 := hid hy0
            clear hy0
            have l0 : (y0 : Int) < 256 := by omega
            have z1 : IntKind.u8.wrap ((X4 : Int) / 65536) = ((X4 / 65536 % 256 : Nat) : Int) := w8_of X4 65536
            obtain ⟨y1, hy1⟩ : ∃ y, y = X4 / 65536 % 256 := ⟨_, rfl⟩
            have m1 : y1 < 256 := by omega
            rw [← hy1] at z1
            have c1 : (w).cell? ⟨gc, 274 + y1, none⟩ = _ := HC.out.cell (i := 274 + y1) (by omega)
            have q1 := hid hy1
            clear hy1
            have l1 : (y1 : Int) < 256 := by omega
            have z2 : IntKind.u8.wrap ((X4 : Int) / 256) = ((X4 / 256 % 256 : Nat) : Int) := w8_of X4 256
            obtain ⟨y2, hy2⟩ : ∃ y, y = X4 / 256 % 256 := ⟨_, rfl⟩
            have m2 : y2 < 256 := by omega
            rw [← hy2] at z2
            have c2 : (w).cell? ⟨gc, 530 + y2, none⟩ = _ := HC.out.cell (i := 530 + y2) (by omega)
            have q2 := hid hy2
            clear hy2
            have l2 : (y2 : Int) < 256 := by omega
            have z3 : IntKind.u8.wrap ((X4 : Int)) = ((X4 % 256 : Nat) : Int) := w8_low X4
            obtain ⟨y3, hy3⟩ : ∃ y, y = X4 % 256 := ⟨_, rfl⟩
            have m3 : y3 < 256 := by omega
            rw [← hy3] at z3
            have c3 : (w).cell? ⟨gc, 786 + y3, none⟩ = _ := HC.out.cell (i := 786 + y3) (by omega)
            have q3 := hid hy3
            clear hy3
            have l3 : (y3 : Int) < 256 := by omega
            have c4 : (w).cell? ⟨gc, 5, none⟩ = _ := HC.out.cell (i := 5) (by decide)
            go_quiet (fail)
            go_wp2_with fail
            go_meet
            exact ⟨X3 ^^^ (fF t X4 ^^^ t 5), xor_lt32 h3 (xor_lt32 (Nat.mod_lt _ (by decide)) (HC.out.lt (i := 5) (by decide))), hid rfl, congrArg _ (bf_val t X4 y0 y1 y2 y3 (t 5) X3 q0.out q1.out q2.out q3.out (HC.out.lt (i := 530 + y2) (by omega)) (HC.out.lt (i := 5) (by decide)) h3), by first | exact ⟨_, rfl⟩ | exact ⟨_, World.drewN_drewN _ _ _⟩⟩
          case rest =>
            obtain ⟨X5, g5, e5, rfl, k5, rfl⟩ := hcut
            have h5 : X5 < 4294967296 := g5
            have HF5 := hid (feis_step HF4.out e5.out)
            clear g5 e5 HF4
            go_upto_region 8 with fail
            go_cut [8] from 229 to 270 (fun v wx => ∃ x : Nat, x < 4294967296 ∧ Hid (x = X4 ^^^ (fF t X5 ^^^ t 6)) ∧ v = .int .u32 (x : Nat) ∧ ∃ k, wx = w.drewN k)
            case first => as_aux_lemma =>
              have z0 : IntKind.u8.wrap ((X5 : Int) / 16777216) = ((X5 / 16777216 % 256 : Nat) : Int) := w8_of X5 16777216
              obtain ⟨y0, hy0⟩ : ∃ y, y = X5 / 16777216 % 256 := ⟨_, rfl⟩
              have m0 : y0 < 256 := by omega
              rw [← hy0] at z0
              have c0 : (w).cell? ⟨gc, 18 + y0, none⟩ = _ := HC.out.cell (i := 18 + y0) (by omega)
              have q0 := hid hy0
              clear hy0
              have l0 : (y0 : Int) < 256 := by omega
              have z1 : IntKind.u8.wrap ((X5 : Int) / 65536) = ((X5 / 65536 % 256 : Nat) : Int) := w8_of X5 65536
              obtain ⟨y1, hy1⟩ : ∃ y, y = X5 / 65536 % 256 := ⟨_, rfl⟩
              have m1 : y1 < 256 := by omega
              rw [← hy1] at z1
              have c1 : (w).cell? ⟨gc, 274 + y1, none⟩ = _ := HC.out.cell (i := 274 + y1) (by omega)
              have q1 := hid hy1
              clear hy1
              have l1 : (y1 : Int) < 256 := by omega
              have z2 : IntKind.u8.wrap ((X5 : Int) / 256) = ((X5 / 256 % 256 : Nat) : Int) := w8_of X5 256
              obtain ⟨y2, hy2⟩ : ∃ y, y = X5 / 256 % 256 := ⟨_, rfl⟩
              have m2 : y2 < 256 := by omega
              rw [← hy2] at z2
              have c2 : (w).cell? ⟨gc, 530 + y2, none⟩ = _ := HC.out.cell (i := 530 + y2) (by omega)
              have q2 := hid hy2
              clear hy2
              have l2 : (y2 : Int) < 256 := by omega
              have z3 : IntKind.u8.wrap ((X5 : Int)) = ((X5 % 256 : Nat) : Int) := w8_low X5
              obtain ⟨y3, hy3⟩ : ∃ y, y = X5 % 256 := ⟨_, rfl⟩
              have m3 : y3 < 256 := by omega
              rw [← hy3] at z3
              have c3 : (w).cell? ⟨gc, 786 + y3, none⟩ = _ := HC.out.cell (i := 786 + y3) (by omega)
              have q3 := hid hy3
              clear hy3
              have l3 : (y3 : Int) < 256 := by omega
              have c4 : (w).cell? ⟨gc, 6, none⟩ = _ := HC.out.cell (i := 6) (by decide)
              go_quiet (fail)
              go_wp2_with fail
              go_meet
              exact ⟨X4 ^^^ (fF t X5 ^^^ t 6), xor_lt32 h4 (xor_lt32 (Nat.mod_lt _ (by decide)) (HC.out.lt (i := 6) (by decide))), hid rfl, congrArg _ (bf_val t X5 y0 y1 y2 y3 (t 6) X4 q0.out q1.out q2.out q3.out (HC.out.lt (i := 530 + y2) (by omega)) (HC.out.lt (i := 6) (by decide)) h4), by first | exact ⟨_, rfl⟩ | exact ⟨_, World.drewN_drewN _ _ _⟩⟩
            case rest =>
              obtain ⟨X6, g6, e6, rfl, k6, rfl⟩ := hcut
              have h6 : X6 < 4294967296 := g6
              have HF6 := hid (feis_step HF5.out e6.out)
              clear g6 e6 HF5
              go_upto_region 9 with fail
              go_cut [9] from 271 to 312 (fun v wx => ∃ x : Nat, x < 4294967296 ∧ Hid (x = X5 ^^^ (fF t X6 ^^^ t 7)) ∧ v = .int .u32 (x : Nat) ∧ ∃ k, wx = w.drewN k)
              case first => as_aux_lemma =>
                have z0 : IntKind.u8.wrap ((X6 : Int) / 16777216) = ((X6 / 16777216 % 256 : Nat) : Int) := w8_of X6 16777216
                obtain ⟨y0, hy0⟩ : ∃ y, y = X6 / 16777216 % 256 := ⟨_, rfl⟩
                have m0 : y0 < 256 := by omega
                rw [← hy0] at z0
                have c0 : (w).cell? ⟨gc, 18 + y0, none⟩ = _ := HC.out.cell (i := 18 + y0) (by omega)
                have q0 := hid hy0
                clear hy0
                have l0 : (y0 : Int) < 256 := by omega
                have z1 : IntKind.u8.wrap ((X6 : Int) / 65536) = ((X6 / 65536 % 256 : Nat) : Int) := w8_of X6 65536
                obtain ⟨y1, hy1⟩ : ∃ y, y = X6 / 65536 % 256 := ⟨_, rfl⟩
                have m1 : y1 < 256 := by omega
                rw [← hy1] at z1
                have c1 : (w).cell? ⟨gc, 274 + y1, none⟩ = _ := HC.out.cell (i := 274 + y1) (by omega)
                have q1 := hid hy1
                clear hy1
                have l1 : (y1 : Int) < 256 := by omega
                have z2 : IntKind.u8.wrap ((X6 : Int) / 256) = ((X6 / 256 % 256 : Nat) : Int) := w8_of X6 256
                obtain ⟨y2, hy2⟩ : ∃ y, y = X6 / 256 % 256 := ⟨_, rfl⟩
                have m2 : y2 < 256 := by omega
                rw [← hy2] at z2
                have c2 : (w).cell? ⟨gc, 530 + y2, none⟩ = _ := HC.out.cell (i := 530 + y2) (by omega)
                have q2 := hid hy2
                clear hy2
                have l2 : (y2 : Int) < 256 := by omega
                have z3 : IntKind.u8.wrap ((X6 : Int)) = ((X6 % 256 : Nat) : Int) := w8_low X6
                obtain ⟨y3, hy3⟩ : ∃ y, y = X6 % 256 := ⟨_, rfl⟩
                have m3 : y3 < 256 := by omega
                rw [← hy3] at z3
                have c3 : (w).cell? ⟨gc, 786 + y3, none⟩ = _ := HC.out.cell (i := 786 + y3) (by omega)
                have q3 := hid hy3
                clear hy3
                have l3 : (y3 : Int) < 256 := by omega
                have c4 : (w).cell? ⟨gc, 7, none⟩ = _ := HC.out.cell (i := 7) (by decide)
                go_quiet (fail)
                go_wp2_with fail
                go_meet
                exact ⟨X5 ^^^ (fF t X6 ^^^ t 7), xor_lt32 h5 (xor_lt32 (Nat.mod_lt _ (by decide)) (HC.out.lt (i := 7) (by decide))), hid rfl, congrArg _ (bf_val t X6 y0 y1 y2 y3 (t 7) X5 q0.out q1.out q2.out q3.out (HC.out.lt (i := 530 + y2) (by omega)) (HC.out.lt (i := 7) (by decide)) h5), by first | exact ⟨_, rfl⟩ | exact ⟨_, World.drewN_drewN _ _ _⟩⟩
              case rest =>
                obtain ⟨X7, g7, e7, rfl, k7, rfl⟩ := hcut
                have h7 : X7 < 4294967296 := g7
                have HF7 := hid (feis_step HF6.out e7.out)
                clear g7 e7 HF6
                go_upto_region 10 with fail
                go_cut [8] from 313 to 354 (fun v wx => ∃ x : Nat, x < 4294967296 ∧ Hid (x = X6 ^^^ (fF t X7 ^^^ t 8)) ∧ v = .int .u32 (x : Nat) ∧ ∃ k, wx = w.drewN k)
                case first => as_aux_lemma =>
                  have z0 : IntKind.u8.wrap ((X7 : Int) / 16777216) = ((X7 / 16777216 % 256 : Nat) : Int) := w8_of X7 16777216
                  obtain ⟨y0, hy0⟩ : ∃ y, y = X7 / 16777216 % 256 := ⟨_, rfl⟩
                  have m0 : y0 < 256 := by omega
                  rw [← hy0] at z0
                  have c0 : (w).cell? ⟨gc, 18 + y0, none⟩ = _ := HC.out.cell (i := 18 + y0) (by omega)
                  have q0 := hid hy0
                  clear hy0
                  have l0 : (y0 : Int) < 256 := by omega
                  have z1 : IntKind.u8.wrap ((X7 : Int) / 65536) = ((X7 / 65536 % 256 : Nat) : Int) := w8_of X7 65536
                  obtain ⟨y1, hy1⟩ : ∃ y, y = X7 / 65536 % 256 := ⟨_, rfl⟩
                  have m1 : y1 < 256 := by omega
                  rw [← hy1] at z1
                  have c1 : (w).cell? ⟨gc, 274 + y1, none⟩ = _ := HC.out.cell (i := 274 + y1) (by omega)
                  have q1 := hid hy1
                  clear hy1
                  have l1 : (y1 : Int) < 256 := by omega
                  have z2 : IntKind.u8.wrap ((X7 : Int) / 256) = ((X7 / 256 % 256 : Nat) : Int) := w8_of X7 256
                  obtain ⟨y2, hy2⟩ : ∃ y, y = X7 / 256 % 256 := ⟨_, rfl⟩
                  have m2 : y2 < 256 := by omega
                  rw [← hy2] at z2
                  have c2 : (w).cell? ⟨gc, 530 + y2, none⟩ = _ := HC.out.cell (i := 530 + y2) (by omega)
                  have q2 := hid hy2
                  clear hy2
                  have l2 : (y2 : Int) < 256 := by omega
                  have z3 : IntKind.u8.wrap ((X7 : Int)) = ((X7 % 256 : Nat) : Int) := w8_low X7
                  obtain ⟨y3, hy3⟩ : ∃ y, y = X7 % 256 := ⟨_, rfl⟩
                  have m3 : y3 < 256 := by omega
                  rw [← hy3] at z3
                  have c3 : (w).cell? ⟨gc, 786 + y3, none⟩ = _ := HC.out.cell (i := 786 + y3) (by omega)
                  have q3 := hid hy3
                  clear hy3
                  have l3 : (y3 : Int) < 256 := by omega
                  have c4 : (w).cell? ⟨gc, 8, none⟩ = _ := HC.out.cell (i := 8) (by decide)
                  go_quiet (fail)
                  go_wp2_with fail
                  go_meet
                  exact ⟨X6 ^^^ (fF t X7 ^^^ t 8), xor_lt32 h6 (xor_lt32 (Nat.mod_lt _ (by decide)) (HC.out.lt (i := 8) (by decide))), hid rfl, congrArg _ (bf_val t X7 y0 y1 y2 y3 (t 8) X6 q0.out q1.out q2.out q3.out (HC.out.lt (i := 530 + y2) (by omega)) (HC.out.lt (i := 8) (by decide)) h6), by first | exact ⟨_, rfl⟩ | exact ⟨_, World.drewN_drewN _ _ _⟩⟩
                case rest =>
                  obtain ⟨X8, g8, e8, rfl, k8, rfl⟩ := hcut
                  have h8 : X8 < 4294967296 := g8
                  have HF8 := hid (feis_step HF7.out e8.out)
                  clear g8 e8 HF7
                  go_upto_region 11 with fail
                  go_cut [9] from 355 to 396 (fun v wx => ∃ x : Nat, x < 4294967296 ∧ Hid (x = X7 ^^^ (fF t X8 ^^^ t 9)) ∧ v = .int .u32 (x : Nat) ∧ ∃ k, wx = w.drewN k)
                  case first => as_aux_lemma =>
                    have z0 : IntKind.u8.wrap ((X8 : Int) / 16777216) = ((X8 / 16777216 % 256 : Nat) : Int) := w8_of X8 16777216
                    obtain ⟨y0, hy0⟩ : ∃ y, y = X8 / 16777216 % 256 := ⟨_, rfl⟩
                    have m0 : y0 < 256 := by omega
                    rw [← hy0] at z0
                    have c0 : (w).cell? ⟨gc, 18 + y0, none⟩ = _ := HC.out.cell (i := 18 + y0) (by omega)
                    have q0 := hid hy0
                    clear hy0
                    have l0 : (y0 : Int) < 256 := by omega
                    have z1 : IntKind.u8.wrap ((X8 : Int) / 65536) = ((X8 / 65536 % 256 : Nat) : Int) := w8_of X8 65536
                    obtain ⟨y1, hy1⟩ : ∃ y, y = X8 / 65536 % 256 := ⟨_, rfl⟩
                    have m1 : y1 < 256 := by omega
                    rw [← hy1] at z1
                    have c1 : (w).cell? ⟨gc, 274 + y1, none⟩ = _ := HC.out.cell (i := 274 + y1) (by omega)
                    have q1 := hid hy1
                    clear hy1
                    have l1 : (y1 : Int) < 256 := by omega
                    have z2 : IntKind.u8.wrap ((X8 : Int) / 256) = ((X8 / 256 % 256 : Nat) : Int) := w8_of X8 256
                    obtain ⟨y2, hy2⟩ : ∃ y, y = X8 / 256 % 256 := ⟨_, rfl⟩
                    have m2 : y2 < 256 := by omega
                    rw [← hy2] at z2
                    have c2 : (w).cell? ⟨gc, 530 + y2, none⟩ = _ := HC.out.cell (i := 530 + y2) (by omega)
                    have q2 := hid hy2
                    clear hy2
                    have l2 : (y2 : Int) < 256 := by omega
                    have z3 : IntKind.u8.wrap ((X8 : Int)) = ((X8 % 256 : Nat) : Int) := w8_low X8
                    obtain ⟨y3, hy3⟩ : ∃ y, y = X8 % 256 := ⟨_, rfl⟩
                    have m3 : y3 < 256 := by omega
                    rw [← hy3] at z3
                    have c3 : (w).cell? ⟨gc, 786 + y3, none⟩ = _ := HC.out.cell (i := 786 + y3) (by omega)
                    have q3 := hid hy3
                    clear hy3
                    have l3 : (y3 : Int) < 256 := by omega
                    have c4 : (w).cell? ⟨gc, 9, none⟩ = _ := HC.out.cell (i := 9) (by decide)
                    go_quiet (fail)
                    go_wp2_with fail
                    go_meet
                    exact ⟨X7 ^^^ (fF t X8 ^^^ t 9), xor_lt32 h7 (xor_lt32 (Nat.mod_lt _ (by decide)) (HC.out.lt (i := 9) (by decide))), hid rfl, congrArg _ (bf_val t X8 y0 y1 y2 y3 (t 9) X7 q0.out q1.out q2.out q3.out (HC.out.lt (i := 530 + y2) (by omega)) (HC.out.lt (i := 9) (by decide)) h7), by first | exact ⟨_, rfl⟩ | exact ⟨_, World.drewN_drewN _ _ _⟩⟩
                  case rest =>
                    obtain ⟨X9, g9, e9, rfl, k9, rfl⟩ := hcut
                    have h9 : X9 < 4294967296 := g9
                    have HF9 := hid (feis_step HF8.out e9.out)
                    clear g9 e9 HF8
                    go_upto_region 12 with fail
                    go_cut [8] from 397 to 438 (fun v wx => ∃ x : Nat, x < 4294967296 ∧ Hid (x = X8 ^^^ (fF t X9 ^^^ t 10)) ∧ v = .int .u32 (x : Nat) ∧ ∃ k, wx = w.drewN k)
                    case first => as_aux_lemma =>
                      have z0 : IntKind.u8.wrap ((X9 : Int) / 16777216) = ((X9 / 16777216 % 256 : Nat) : Int) := w8_of X9 16777216
                      obtain ⟨y0, hy0⟩ : ∃ y, y = X9 / 16777216 % 256 := ⟨_, rfl⟩
                      have m0 : y0 < 256 := by omega
                      rw [← hy0] at z0
                      have c0 : (w).cell? ⟨gc, 18 + y0, none⟩ = _ := HC.out.cell (i := 18 + y0) (by omega)
                      have q0 := hid hy0
                      clear hy0
                      have l0 : (y0 : Int) < 256 := by omega
                      have z1 : IntKind.u8.wrap ((X9 : Int) / 65536) = ((X9 / 65536 % 256 : Nat) : Int) := w8_of X9 65536
                      obtain ⟨y1, hy1⟩ : ∃ y, y = X9 / 65536 % 256 := ⟨_, rfl⟩
                      have m1 : y1 < 256 := by omega
                      rw [← hy1] at z1
                      have c1 : (w).cell? ⟨gc, 274 + y1, none⟩ = _ := HC.out.cell (i := 274 + y1) (by omega)
                      have q1 := hid hy1
                      clear hy1
                      have l1 : (y1 : Int) < 256 := by omega
                      have z2 : IntKind.u8.wrap ((X9 : Int) / 256) = ((X9 / 256 % 256 : Nat) : Int) := w8_of X9 256
                      obtain ⟨y2, hy2⟩ : ∃ y, y = X9 / 256 % 256 := ⟨_, rfl⟩
                      have m2 : y2 < 256 := by omega
                      rw [← hy2] at z2
                      have c2 : (w).cell? ⟨gc, 530 + y2, none⟩ = _ := HC.out.cell (i := 530 + y2) (by omega)
                      have q2 := hid hy2
                      clear hy2
                      have l2 : (y2 : Int) < 256 := by omega
                      have z3 : IntKind.u8.wrap ((X9 : Int)) = ((X9 % 256 : Nat) : Int) := w8_low X9
                      obtain ⟨y3, hy3⟩ : ∃ y, y = X9 % 256 := ⟨_, rfl⟩
                      have m3 : y3 < 256 := by omega
                      rw [← hy3] at z3
                      have c3 : (w).cell? ⟨gc, 786 + y3, none⟩ = _ := HC.out.cell (i := 786 + y3) (by omega)
                      have q3 := hid hy3
                      clear hy3
                      have l3 : (y3 : Int) < 256 := by omega
                      have c4 : (w).cell? ⟨gc, 10, none⟩ = _ := HC.out.cell (i := 10) (by decide)
                      go_quiet (fail)
                      go_wp2_with fail
                      go_meet
                      exact ⟨X8 ^^^ (fF t X9 ^^^ t 10), xor_lt32 h8 (xor_lt32 (Nat.mod_lt _ (by decide)) (HC.out.lt (i := 10) (by decide))), hid rfl, congrArg _ (bf_val t X9 y0 y1 y2 y3 (t 10) X8 q0.out q1.out q2.out q3.out (HC.out.lt (i := 530 + y2) (by omega)) (HC.out.lt (i := 10) (by decide)) h8), by first | exact ⟨_, rfl⟩ | exact ⟨_, World.drewN_drewN _ _ _⟩⟩
                    case rest =>
                      obtain ⟨X10, g10, e10, rfl, k10, rfl⟩ := hcut
                      have h10 : X10 < 4294967296 := g10
                      have HF10 := hid (feis_step HF9.out e10.out)
                      clear g10 e10 HF9
                      go_upto_region 13 with fail
                      go_cut [9] from 439 to 480 (fun v wx => ∃ x : Nat, x < 4294967296 ∧ Hid (x = X9 ^^^ (fF t X10 ^^^ t 11)) ∧ v = .int .u32 (x : Nat) ∧ ∃ k, wx = w.drewN k)
                      case first => as_aux_lemma =>
                        have z0 : IntKind.u8.wrap ((X10 : Int) / 16777216) = ((X10 / 16777216 % 256 : Nat) : Int) := w8_of X10 16777216
                        obtain ⟨y0, hy0⟩ : ∃ y, y = X10 / 16777216 % 256 := ⟨_, rfl⟩
                        have m0 : y0 < 256 := by omega
                        rw [← hy0] at z0
                        have c0 : (w).cell? ⟨gc, 18 + y0, none⟩ = _ := HC.out.cell (i := 18 + y0) (by omega)
                        have q0 := hid hy0
                        clear hy0
                        have l0 : (y0 : Int) < 256 := by omega
                        have z1 : IntKind.u8.wrap ((X10 : Int) / 65536) = ((X10 / 65536 % 256 : Nat) : Int) := w8_of X10 65536
                        obtain ⟨y1, hy1⟩ : ∃ y, y = X10 / 65536 % 256 := ⟨_, rfl⟩
                        have m1 : y1 < 256 := by omega
                        rw [← hy1] at z1
                        have c1 : (w).cell? ⟨gc, 274 + y1, none⟩ = _ := HC.out.cell (i := 274 + y1) (by omega)
                        have q1 := hid hy1
                        clear hy1
                        have l1 : (y1 : Int) < 256 := by omega
                        have z2 : IntKind.u8.wrap ((X10 : Int) / 256) = ((X10 / 256 % 256 : Nat) : Int) := w8_of X10 256
                        obtain ⟨y2, hy2⟩ : ∃ y, y = X10 / 256 % 256 := ⟨_, rfl⟩
                        have m2 : y2 < 256 := by omega
                        rw [← hy2] at z2
                        have c2 : (w).cell? ⟨gc, 530 + y2, none⟩ = _ := HC.out.cell (i := 530 + y2) (by omega)
                        have q2 := hid hy2
                        clear hy2
                        have l2 : (y2 : Int) < 256 := by omega
                        have z3 : IntKind.u8.wrap ((X10 : Int)) = ((X10 % 256 : Nat) : Int) := w8_low X10
                        obtain ⟨y3, hy3⟩ : ∃ y, y = X10 % 256 := ⟨_, rfl⟩
                        have m3 : y3 < 256 := by omega
                        rw [← hy3] at z3
                        have c3 : (w).cell? ⟨gc, 786 + y3, none⟩ = _ := HC.out.cell (i := 786 + y3) (by omega)
                        have q3 := hid hy3
                        clear hy3
                        have l3 : (y3 : Int) < 256 := by omega
                        have c4 : (w).cell? ⟨gc, 11, none⟩ = _ := HC.out.cell (i := 11) (by decide)
                        go_quiet (fail)
                        go_wp2_with fail
                        go_meet
                        exact ⟨X9 ^^^ (fF t X10 ^^^ t 11), xor_lt32 h9 (xor_lt32 (Nat.mod_lt _ (by decide)) (HC.out.lt (i := 11) (by decide))), hid rfl, congrArg _ (bf_val t X10 y0 y1 y2 y3 (t 11) X9 q0.out q1.out q2.out q3.out (HC.out.lt (i := 530 + y2) (by omega)) (HC.out.lt (i := 11) (by decide)) h9), by first | exact ⟨_, rfl⟩ | exact ⟨_, World.drewN_drewN _ _ _⟩⟩
                      case rest =>
                        obtain ⟨X11, g11, e11, rfl, k11, rfl⟩ := hcut
                        have h11 : X11 < 4294967296 := g11
                        have HF11 := hid (feis_step HF10.out e11.out)
                        clear g11 e11 HF10
                        go_upto_region 14 with fail
                        go_cut [8] from 481 to 522 (fun v wx => ∃ x : Nat, x < 4294967296 ∧ Hid (x = X10 ^^^ (fF t X11 ^^^ t 12)) ∧ v = .int .u32 (x : Nat) ∧ ∃ k, wx = w.drewN k)
                        case first => as_aux_lemma =>
                          have z0 : IntKind.u8.wrap ((X11 : Int) / 16777216) = ((X11 / 16777216 % 256 : Nat) : Int) := w8_of X11 16777216
                          obtain ⟨y0, hy0⟩ : ∃ y, y = X11 / 16777216 % 256 := ⟨_, rfl⟩
                          have m0 : y0 < 256 := by omega
                          rw [← hy0] at z0
                          have c0 : (w).cell? ⟨gc, 18 + y0, none⟩ = _ := HC.out.cell (i := 18 + y0) (by omega)
                          have q0 := hid hy0
                          clear hy0
                          have l0 : (y0 : Int) < 256 := by omega
                          have z1 : IntKind.u8.wrap ((X11 : Int) / 65536) = ((X11 / 65536 % 256 : Nat) : Int) := w8_of X11 65536
                          obtain ⟨y1, hy1⟩ : ∃ y, y = X11 / 65536 % 256 := ⟨_, rfl⟩
                          have m1 : y1 < 256 := by omega
                          rw [← hy1] at z1
                          have c1 : (w).cell? ⟨gc, 274 + y1, none⟩ = _ := HC.out.cell (i := 274 + y1) (by omega)
                          have q1 := hid hy1
                          clear hy1
                          have l1 : (y1 : Int) < 256 := by omega
                          have z2 : IntKind.u8.wrap ((X11 : Int) / 256) = ((X11 / 256 % 256 : Nat) : Int) := w8_of X11 256
                          obtain ⟨y2, hy2⟩ : ∃ y, y = X11 / 256 % 256 := ⟨_, rfl⟩
                          have m2 : y2 < 256 := by omega
                          rw [← hy2] at z2
                          have c2 : (w).cell? ⟨gc, 530 + y2, none⟩ = _ := HC.out.cell (i := 530 + y2) (by omega)
                          have q2 := hid hy2
                          clear hy2
                          have l2 : (y2 : Int) < 256 := by omega
                          have z3 : IntKind.u8.wrap ((X11 : Int)) = ((X11 % 256 : Nat) : Int) := w8_low X11
                          obtain ⟨y3, hy3⟩ : ∃ y, y = X11 % 256 := ⟨_, rfl⟩
                          have m3 : y3 < 256 := by omega
                          rw [← hy3] at z3
                          have c3 : (w).cell? ⟨gc, 786 + y3, none⟩ = _ := HC.out.cell (i := 786 + y3) (by omega)
                          have q3 := hid hy3
                          clear hy3
                          have l3 : (y3 : Int) < 256 := by omega
                          have c4 : (w).cell? ⟨gc, 12, none⟩ = _ := HC.out.cell (i := 12) (by decide)
                          go_quiet (fail)
                          go_wp2_with fail
                          go_meet
                          exact ⟨X10 ^^^ (fF t X11 ^^^ t 12), xor_lt32 h10 (xor_lt32 (Nat.mod_lt _ (by decide)) (HC.out.lt (i := 12) (by decide))), hid rfl, congrArg _ (bf_val t X11 y0 y1 y2 y3 (t 12) X10 q0.out q1.out q2.out q3.out (HC.out.lt (i := 530 + y2) (by omega)) (HC.out.lt (i := 12) (by decide)) h10), by first | exact ⟨_, rfl⟩ | exact ⟨_, World.drewN_drewN _ _ _⟩⟩
                        case rest =>
                          obtain ⟨X12, g12, e12, rfl, k12, rfl⟩ := hcut
                          have h12 : X12 < 4294967296 := g12
                          have HF12 := hid (feis_step HF11.out e12.out)
                          clear g12 e12 HF11
                          go_upto_region 15 with fail
                          go_cut [9] from 523 to 564 (fun v wx => ∃ x : Nat, x < 4294967296 ∧ Hid (x = X11 ^^^ (fF t X12 ^^^ t 13)) ∧ v = .int .u32 (x : Nat) ∧ ∃ k, wx = w.drewN k)
                          case first => as_aux_lemma =>
                            have z0 : IntKind.u8.wrap ((X12 : Int) / 16777216) = ((X12 / 16777216 % 256 : Nat) : Int) := w8_of X12 16777216
                            obtain ⟨y0, hy0⟩ : ∃ y, y = X12 / 16777216 % 256 := ⟨_, rfl⟩
                            have m0 : y0 < 256 := by omega
                            rw [← hy0] at z0
                            have c0 : (w).cell? ⟨gc, 18 + y0, none⟩ = _ := HC.out.cell (i := 18 + y0) (by omega)
                            have q0 := hid hy0
                            clear hy0
                            have l0 : (y0 : Int) < 256 := by omega
                            have z1 : IntKind.u8.wrap ((X12 : Int) / 65536) = ((X12 / 65536 % 256 : Nat) : Int) := w8_of X12 65536
                            obtain ⟨y1, hy1⟩ : ∃ y, y = X12 / 65536 % 256 := ⟨_, rfl⟩
                            have m1 : y1 < 256 := by omega
                            rw [← hy1] at z1
                            have c1 : (w).cell? ⟨gc, 274 + y1, none⟩ = _ := HC.out.cell (i := 274 + y1) (by omega)
                            have q1 := hid hy1
                            clear hy1
                            have l1 : (y1 : Int) < 256 := by omega
                            have z2 : IntKind.u8.wrap ((X12 : Int) / 256) = ((X12 / 256 % 256 : Nat) : Int) := w8_of X12 256
                            obtain ⟨y2, hy2⟩ : ∃ y, y = X12 / 256 % 256 := ⟨_, rfl⟩
                            have m2 : y2 < 256 := by omega
                            rw [← hy2] at z2
                            have c2 : (w).cell? ⟨gc, 530 + y2, none⟩ = _ := HC.out.cell (i := 530 + y2) (by omega)
                            have q2 := hid hy2
                            clear hy2
                            have l2 : (y2 : Int) < 256 := by omega
                            have z3 : IntKind.u8.wrap ((X12 : Int)) = ((X12 % 256 : Nat) : Int) := w8_low X12
                            obtain ⟨y3, hy3⟩ : ∃ y, y = X12 % 256 := ⟨_, rfl⟩
                            have m3 : y3 < 256 := by omega
                            rw [← hy3] at z3
                            have c3 : (w).cell? ⟨gc, 786 + y3, none⟩ = _ := HC.out.cell (i := 786 + y3) (by omega)
                            have q3 := hid hy3
                            clear hy3
                            have l3 : (y3 : Int) < 256 := by omega
                            have c4 : (w).cell? ⟨gc, 13, none⟩ = _ := HC.out.cell (i := 13) (by decide)
                            go_quiet (fail)
                            go_wp2_with fail
                            go_meet
                            exact ⟨X11 ^^^ (fF t X12 ^^^ t 13), xor_lt32 h11 (xor_lt32 (Nat.mod_lt _ (by decide)) (HC.out.lt (i := 13) (by decide))), hid rfl, congrArg _ (bf_val t X12 y0 y1 y2 y3 (t 13) X11 q0.out q1.out q2.out q3.out (HC.out.lt (i := 530 + y2) (by omega)) (HC.out.lt (i := 13) (by decide)) h11), by first | exact ⟨_, rfl⟩ | exact ⟨_, World.drewN_drewN _ _ _⟩⟩
                          case rest =>
                            obtain ⟨X13, g13, e13, rfl, k13, rfl⟩ := hcut
                            have h13 : X13 < 4294967296 := g13
                            have HF13 := hid (feis_step HF12.out e13.out)
                            clear g13 e13 HF12
                            go_upto_region 16 with fail
                            go_cut [8] from 565 to 606 (fun v wx => ∃ x : Nat, x < 4294967296 ∧ Hid (x = X12 ^^^ (fF t X13 ^^^ t 14)) ∧ v = .int .u32 (x : Nat) ∧ ∃ k, wx = w.drewN k)
                            case first => as_aux_lemma =>
                              have z0 : IntKind.u8.wrap ((X13 : Int) / 16777216) = ((X13 / 16777216 % 256 : Nat) : Int) := w8_of X13 16777216
                              obtain ⟨y0, hy0⟩ : ∃ y, y = X13 / 16777216 % 256 := ⟨_, rfl⟩
                              have m0 : y0 < 256 := by omega
                              rw [← hy0] at z0
                              have c0 : (w).cell? ⟨gc, 18 + y0, none⟩ = _ := HC.out.cell (i := 18 + y0) (by omega)
                              have q0 := hid hy0
                              clear hy0
                              have l0 : (y0 : Int) < 256 := by omega
                              have z1 : IntKind.u8.wrap ((X13 : Int) / 65536) = ((X13 / 65536 % 256 : Nat) : Int) := w8_of X13 65536
                              obtain ⟨y1, hy1⟩ : ∃ y, y = X13 / 65536 % 256 := ⟨_, rfl⟩
                              have m1 : y1 < 256 := by omega
                              rw [← hy1] at z1
                              have c1 : (w).cell? ⟨gc, 274 + y1, none⟩ = _ := HC.out.cell (i := 274 + y1) (by omega)
                              have q1 := hid hy1
                              clear hy1
                              have l1 : (y1 : Int) < 256 := by omega
                              have z2 : IntKind.u8.wrap ((X13 : Int) / 256) = ((X13 / 256 % 256 : Nat) : Int) := w8_of X13 256
                              obtain ⟨y2, hy2⟩ : ∃ y, y = X13 / 256 % 256 := ⟨_, rfl⟩
                              have m2 : y2 < 256 := by omega
                              rw [← hy2] at z2
                              have c2 : (w).cell? ⟨gc, 530 + y2, none⟩ = _ := HC.out.cell (i := 530 + y2) (by omega)
                              have q2 := hid hy2
                              clear hy2
                              have l2 : (y2 : Int) < 256 := by omega
                              have z3 : IntKind.u8.wrap ((X13 : Int)) = ((X13 % 256 : Nat) : Int) := w8_low X13
                              obtain ⟨y3, hy3⟩ : ∃ y, y = X13 % 256 := ⟨_, rfl⟩
                              have m3 : y3 < 256 := by omega
                              rw [← hy3] at z3
                              have c3 : (w).cell? ⟨gc, 786 + y3, none⟩ = _ := HC.out.cell (i := 786 + y3) (by omega)
                              have q3 := hid hy3
                              clear hy3
                              have l3 : (y3 : Int) < 256 := by omega
                              have c4 : (w).cell? ⟨gc, 14, none⟩ = _ := HC.out.cell (i := 14) (by decide)
                              go_quiet (fail)
                              go_wp2_with fail
                              go_meet
                              exact ⟨X12 ^^^ (fF t X13 ^^^ t 14), xor_lt32 h12 (xor_lt32 (Nat.mod_lt _ (by decide)) (HC.out.lt (i := 14) (by decide))), hid rfl, congrArg _ (bf_val t X13 y0 y1 y2 y3 (t 14) X12 q0.out q1.out q2.out q3.out (HC.out.lt (i := 530 + y2) (by omega)) (HC.out.lt (i := 14) (by decide)) h12), by first | exact ⟨_, rfl⟩ | exact ⟨_, World.drewN_drewN _ _ _⟩⟩
                            case rest =>
                              obtain ⟨X14, g14, e14, rfl, k14, rfl⟩ := hcut
                              have h14 : X14 < 4294967296 := g14
                              have HF14 := hid (feis_step HF13.out e14.out)
                              clear g14 e14 HF13
                              go_upto_region 17 with fail
                              go_cut [9] from 607 to 648 (fun v wx => ∃ x : Nat, x < 4294967296 ∧ Hid (x = X13 ^^^ (fF t X14 ^^^ t 15)) ∧ v = .int .u32 (x : Nat) ∧ ∃ k, wx = w.drewN k)
                              case first => as_aux_lemma =>
                                have z0 : IntKind.u8.wrap ((X14 : Int) / 16777216) = ((X14 / 16777216 % 256 : Nat) : Int) := w8_of X14 16777216
                                obtain ⟨y0, hy0⟩ : ∃ y, y = X14 / 16777216 % 256 := ⟨_, rfl⟩
                                have m0 : y0 < 256 := by omega
                                rw [← hy0] at z0
                                have c0 : (w).cell? ⟨gc, 18 + y0, none⟩ = _ := HC.out.cell (i := 18 + y0) (by omega)
                                have q0 := hid hy0
                                clear hy0
                                have l0 : (y0 : Int) < 256 := by omega
                                have z1 : IntKind.u8.wrap ((X14 : Int) / 65536) = ((X14 / 65536 % 256 : Nat) : Int) := w8_of X14 65536
                                obtain ⟨y1, hy1⟩ : ∃ y, y = X14 / 65536 % 256 := ⟨_, rfl⟩
                                have m1 : y1 < 256 := by omega
                                rw [← hy1] at z1
                                have c1 : (w).cell? ⟨gc, 274 + y1, none⟩ = _ := HC.out.cell (i := 274 + y1) (by omega)
                                have q1 := hid hy1
                                clear hy1
                                have l1 : (y1 : Int) < 256 := by omega
                                have z2 : IntKind.u8.wrap ((X14 : Int) / 256) = ((X14 / 256 % 256 : Nat) : Int) := w8_of X14 256
                                obtain ⟨y2, hy2⟩ : ∃ y, y = X14 / 256 % 256 := ⟨_, rfl⟩
                                have m2 : y2 < 256 := by omega
                                rw [← hy2] at z2
                                have c2 : (w).cell? ⟨gc, 530 + y2, none⟩ = _ := HC.out.cell (i := 530 + y2) (by omega)
                                have q2 := hid hy2
                                clear hy2
                                have l2 : (y2 : Int) < 256 := by omega
                                have z3 : IntKind.u8.wrap ((X14 : Int)) = ((X14 % 256 : Nat) : Int) := w8_low X14
                                obtain ⟨y3, hy3⟩ : ∃ y, y = X14 % 256 := ⟨_, rfl⟩
                                have m3 : y3 < 256 := by omega
                                rw [← hy3] at z3
                                have c3 : (w).cell? ⟨gc, 786 + y3, none⟩ = _ := HC.out.cell (i := 786 + y3) (by omega)
                                have q3 := hid hy3
                                clear hy3
                                have l3 : (y3 : Int) < 256 := by omega
                                have c4 : (w).cell? ⟨gc, 15, none⟩ = _ := HC.out.cell (i := 15) (by decide)
                                go_quiet (fail)
                                go_wp2_with fail
                                go_meet
                                exact ⟨X13 ^^^ (fF t X14 ^^^ t 15), xor_lt32 h13 (xor_lt32 (Nat.mod_lt _ (by decide)) (HC.out.lt (i := 15) (by decide))), hid rfl, congrArg _ (bf_val t X14 y0 y1 y2 y3 (t 15) X13 q0.out q1.out q2.out q3.out (HC.out.lt (i := 530 + y2) (by omega)) (HC.out.lt (i := 15) (by decide)) h13), by first | exact ⟨_, rfl⟩ | exact ⟨_, World.drewN_drewN _ _ _⟩⟩
                              case rest =>
                                obtain ⟨X15, g15, e15, rfl, k15, rfl⟩ := hcut
                                have h15 : X15 < 4294967296 := g15
                                have HF15 := hid (feis_step HF14.out e15.out)
                                clear g15 e15 HF14
                                go_upto_region 18 with fail
                                go_cut [8] from 649 to 690 (fun v wx => ∃ x : Nat, x < 4294967296 ∧ Hid (x = X14 ^^^ (fF t X15 ^^^ t 16)) ∧ v = .int .u32 (x : Nat) ∧ ∃ k, wx = w.drewN k)
                                case first => as_aux_lemma =>
                                  have z0 : IntKind.u8.wrap ((X15 : Int) / 16777216) = ((X15 / 16777216 % 256 : Nat) : Int) := w8_of X15 16777216
                                  obtain ⟨y0, hy0⟩ : ∃ y, y = X15 / 16777216 % 256 := ⟨_, rfl⟩
                                  have m0 : y0 < 256 := by omega
                                  rw [← hy0] at z0
                                  have c0 : (w).cell? ⟨gc, 18 + y0, none⟩ = _ := HC.out.cell (i := 18 + y0) (by omega)
                                  have q0 := hid hy0
                                  clear hy0
                                  have l0 : (y0 : Int) < 256 := by omega
                                  have z1 : IntKind.u8.wrap ((X15 : Int) / 65536) = ((X15 / 65536 % 256 : Nat) : Int) := w8_of X15 65536
                                  obtain ⟨y1, hy1⟩ : ∃ y, y = X15 / 65536 % 256 := ⟨_, rfl⟩
                                  have m1 : y1 < 256 := by omega
                                  rw [← hy1] at z1
                                  have c1 : (w).cell? ⟨gc, 274 + y1, none⟩ = _ := HC.out.cell (i := 274 + y1) (by omega)
                                  have q1 := hid hy1
                                  clear hy1
                                  have l1 : (y1 : Int) < 256 := by omega
                                  have z2 : IntKind.u8.wrap ((X15 : Int) / 256) = ((X15 / 256 % 256 : Nat) : Int) := w8_of X15 256
                                  obtain ⟨y2, hy2⟩ : ∃ y, y = X15 / 256 % 256 := ⟨_, rfl⟩
                                  have m2 : y2 < 256 := by omega
                                  rw [← hy2] at z2
                                  have c2 : (w).cell? ⟨gc, 530 + y2, none⟩ = _ := HC.out.cell (i := 530 + y2) (by omega)
                                  have q2 := hid hy2
                                  clear hy2
                                  have l2 : (y2 : Int) < 256 := by omega
                                  have z3 : IntKind.u8.wrap ((X15 : Int)) = ((X15 % 256 : Nat) : Int) := w8_low X15
                                  obtain ⟨y3, hy3⟩ : ∃ y, y = X15 % 256 := ⟨_, rfl⟩
                                  have m3 : y3 < 256 := by omega
                                  rw [← hy3] at z3
                                  have c3 : (w).cell? ⟨gc, 786 + y3, none⟩ = _ := HC.out.cell (i := 786 + y3) (by omega)
                                  have q3 := hid hy3
                                  clear hy3
                                  have l3 : (y3 : Int) < 256 := by omega
                                  have c4 : (w).cell? ⟨gc, 16, none⟩ = _ := HC.out.cell (i := 16) (by decide)
                                  go_quiet (fail)
                                  go_wp2_with fail
                                  go_meet
                                  exact ⟨X14 ^^^ (fF t X15 ^^^ t 16), xor_lt32 h14 (xor_lt32 (Nat.mod_lt _ (by decide)) (HC.out.lt (i := 16) (by decide))), hid rfl, congrArg _ (bf_val t X15 y0 y1 y2 y3 (t 16) X14 q0.out q1.out q2.out q3.out (HC.out.lt (i := 530 + y2) (by omega)) (HC.out.lt (i := 16) (by decide)) h14), by first | exact ⟨_, rfl⟩ | exact ⟨_, World.drewN_drewN _ _ _⟩⟩
                                case rest =>
                                  obtain ⟨X16, g16, e16, rfl, k16, rfl⟩ := hcut
                                  have h16 : X16 < 4294967296 := g16
                                  have HF16 := hid (feis_step HF15.out e16.out)
                                  clear g16 e16 HF15
                                  have p17 : w.cell? ⟨gc, 17, none⟩ = _ := HC.out.cell (i := 17) (by decide)
                                  have b17 := HC.out.lt (i := 17) (by decide)
                                  obtain ⟨P17, hP17⟩ : ∃ P, P = t 17 := ⟨_, rfl⟩
                                  rw [← hP17] at p17 b17
                                  have HP17 := hid hP17
                                  clear hP17
                                  have x17 := u32_xor_nat X15 P17 h15 b17
                                  go_wp2_with fail
                                  go_ret2
                                  exact ⟨_, _, xor_lt32 h15 b17, h16, by rw [HP17.out, bfL, HF16.out], by rw [bfR, HF16.out], rfl, _, rfl⟩
#print axioms encryptBlock_any
end Go.Proofs.YtmglaaejobbbiaaDoor
