/-
  (*Cipher).Encrypt of eight bytes into their own place: they become the block that Blowfish gives; nothing else turns.
-/
import Derived.Test.YtmglaaejobbbiaaDoorBlock
import Derived.Test.YtmglaaejobbbiaaDoorBRow
namespace Go.Proofs.YtmglaaejobbbiaaDoor
open Go.RowKit

theorem or_lt32 {a b : Nat} (ha : a < 4294967296) (hb : b < 4294967296) : a ||| b < 4294967296 := Nat.or_lt_two_pow (n := 32) ha hb
set_option maxRecDepth 100000 in
theorem word4 (a b c d : Nat) (ha : a < 256) (hb : b < 256) (hc : c < 256) (hd : d < 256) :
    bits BinOp.or IntKind.u32 (bits BinOp.or IntKind.u32 (bits BinOp.or IntKind.u32 ((a : Int) * 16777216) ((b : Int) * 65536)) ((c : Int) * 256)) (d : Int) = ((a * 16777216 ||| b * 65536 ||| c * 256 ||| d : Nat) : Int) ∧
      a * 16777216 ||| b * 65536 ||| c * 256 ||| d < 4294967296 := by
  have l0 : a * 16777216 < 4294967296 := by clear hb hc hd; omega
  have l1 : b * 65536 < 4294967296 := by clear l0 ha hc hd; omega
  have l2 : c * 256 < 4294967296 := by clear l0 l1 ha hb hd; omega
  have e0 : ((a : Int) * 16777216) = ((a * 16777216 : Nat) : Int) := by omega
  have e1 : ((b : Int) * 65536) = ((b * 65536 : Nat) : Int) := by omega
  have e2 : ((c : Int) * 256) = ((c * 256 : Nat) : Int) := by omega
  have l01 := or_lt32 l0 l1
  have l012 := or_lt32 l01 l2
  exact ⟨by rw [e0, e1, e2, u32_or_nat _ _ l0 l1, u32_or_nat _ _ l01 l2, u32_or_nat _ _ l012 (by omega)], or_lt32 l012 (by omega)⟩

theorem stores8_row {w : World} {g n o a b m : Nat} {B : Nat → Nat} (h : BRow w g n B) (ha : a < 4294967296) (hb : b < 4294967296) 
    : BRow (((((((((w.drewN m).setCell ⟨g, o, none⟩ (.int .u8 ((a : Int) / 16777216))).setCell ⟨g, o + 1, none⟩ (.int .u8 ((a : Int) / 65536 % 256))).setCell ⟨g, o + 2, none⟩ (.int .u8 ((a : Int) / 256 % 256))).setCell ⟨g, o + 3, none⟩ (.int .u8 ((a : Int) % 256))).setCell ⟨g, o + 4, none⟩ (.int .u8 ((b : Int) / 16777216))).setCell ⟨g, o + 5, none⟩ (.int .u8 ((b : Int) / 65536 % 256))).setCell ⟨g, o + 6, none⟩ (.int .u8 ((b : Int) / 256 % 256))).setCell ⟨g, o + 7, none⟩ (.int .u8 ((b : Int) % 256))) g n (putB B o a b) :=
  ((((((((h.drew m).setI (by omega) (by omega)).setI (by omega) (by omega)).setI (by omega) (by omega)).setI (by omega) (by omega)).setI (by omega) (by omega)).setI (by omega) (by omega)).setI (by omega) (by omega)).setI (by omega) (by omega)
theorem stores8_grown {w : World} {g o a b m : Nat} : w.grownBy (((((((((w.drewN m).setCell ⟨g, o, none⟩ (.int .u8 ((a : Int) / 16777216))).setCell ⟨g, o + 1, none⟩ (.int .u8 ((a : Int) / 65536 % 256))).setCell ⟨g, o + 2, none⟩ (.int .u8 ((a : Int) / 256 % 256))).setCell ⟨g, o + 3, none⟩ (.int .u8 ((a : Int) % 256))).setCell ⟨g, o + 4, none⟩ (.int .u8 ((b : Int) / 16777216))).setCell ⟨g, o + 5, none⟩ (.int .u8 ((b : Int) / 65536 % 256))).setCell ⟨g, o + 6, none⟩ (.int .u8 ((b : Int) / 256 % 256))).setCell ⟨g, o + 7, none⟩ (.int .u8 ((b : Int) % 256))) (some g) :=
  grown_trans (grown_trans (grown_trans (grown_trans (grown_trans (grown_trans (grown_trans (grown_trans (grown_drewN w _ m) (grown_setCell _ g _ _)) (grown_setCell _ g _ _)) (grown_setCell _ g _ _)) (grown_setCell _ g _ _)) (grown_setCell _ g _ _)) (grown_setCell _ g _ _)) (grown_setCell _ g _ _)) (grown_setCell _ g _ _)

set_option maxHeartbeats 4000000 in
set_option maxRecDepth 100000 in
theorem encrypt_any (gc g o l1 c1 l2 c2 n : Nat) (t B : Nat → Nat) (w : World) (h1 : 8 ≤ l1) (h2 : 8 ≤ l2) (ho : o + 8 ≤ n) (hc : Cip w gc t) (hb : BRow w g n B) :
    Calls Tryd.prog 22 #[.pointer (some ⟨gc, 0, none⟩), .slice (some ⟨g, o, none⟩) l1 c1, .slice (some ⟨g, o, none⟩) l2 c2] w fun e w' =>
      e = .returned (.tuple #[]) ∧ BRow w' g n (cryB t B o) ∧ w.grownBy w' (some g) := by
  have HC := hid hc
  have HB := hid hb
  obtain ⟨y0, hy0⟩ : ∃ y, y = B (o) := ⟨_, rfl⟩
  have m0 := hb.lt (i := o) (by omega)
  have r0 := hb.cell (i := o) (by omega)
  rw [← hy0] at m0 r0
  have q0 := hid hy0
  clear hy0
  obtain ⟨y1, hy1⟩ : ∃ y, y = B (o + 1) := ⟨_, rfl⟩
  have m1 := hb.lt (i := o + 1) (by omega)
  have r1 := hb.cell (i := o + 1) (by omega)
  rw [← hy1] at m1 r1
  have q1 := hid hy1
  clear hy1
  obtain ⟨y2, hy2⟩ : ∃ y, y = B (o + 2) := ⟨_, rfl⟩
  have m2 := hb.lt (i := o + 2) (by omega)
  have r2 := hb.cell (i := o + 2) (by omega)
  rw [← hy2] at m2 r2
  have q2 := hid hy2
  clear hy2
  obtain ⟨y3, hy3⟩ : ∃ y, y = B (o + 3) := ⟨_, rfl⟩
  have m3 := hb.lt (i := o + 3) (by omega)
  have r3 := hb.cell (i := o + 3) (by omega)
  rw [← hy3] at m3 r3
  have q3 := hid hy3
  clear hy3
  obtain ⟨y4, hy4⟩ : ∃ y, y = B (o + 4) := ⟨_, rfl⟩
  have m4 := hb.lt (i := o + 4) (by omega)
  have r4 := hb.cell (i := o + 4) (by omega)
  rw [← hy4] at m4 r4
  have q4 := hid hy4
  clear hy4
  obtain ⟨y5, hy5⟩ : ∃ y, y = B (o + 5) := ⟨_, rfl⟩
  have m5 := hb.lt (i := o + 5) (by omega)
  have r5 := hb.cell (i := o + 5) (by omega)
  rw [← hy5] at m5 r5
  have q5 := hid hy5
  clear hy5
  obtain ⟨y6, hy6⟩ : ∃ y, y = B (o + 6) := ⟨_, rfl⟩
  have m6 := hb.lt (i := o + 6) (by omega)
  have r6 := hb.cell (i := o + 6) (by omega)
  rw [← hy6] at m6 r6
  have q6 := hid hy6
  clear hy6
  obtain ⟨y7, hy7⟩ : ∃ y, y = B (o + 7) := ⟨_, rfl⟩
  have m7 := hb.lt (i := o + 7) (by omega)
  have r7 := hb.cell (i := o + 7) (by omega)
  rw [← hy7] at m7 r7
  have q7 := hid hy7
  clear hy7
  clear hc hb
  have k0 : (0 : Int) < (l2 : Int) := by omega
  have j0 : (0 : Int) < (l1 : Int) := by omega
  have k1 : (1 : Int) < (l2 : Int) := by omega
  have j1 : (1 : Int) < (l1 : Int) := by omega
  have k2 : (2 : Int) < (l2 : Int) := by omega
  have j2 : (2 : Int) < (l1 : Int) := by omega
  have k3 : (3 : Int) < (l2 : Int) := by omega
  have j3 : (3 : Int) < (l1 : Int) := by omega
  have k4 : (4 : Int) < (l2 : Int) := by omega
  have j4 : (4 : Int) < (l1 : Int) := by omega
  have k5 : (5 : Int) < (l2 : Int) := by omega
  have j5 : (5 : Int) < (l1 : Int) := by omega
  have k6 : (6 : Int) < (l2 : Int) := by omega
  have j6 : (6 : Int) < (l1 : Int) := by omega
  have k7 : (7 : Int) < (l2 : Int) := by omega
  have j7 : (7 : Int) < (l1 : Int) := by omega
  go_enter Tryd.func22, Tryd.ntmps22
  go_upto_region 0 with fail
  go_cut [6] from 8 to 29 (fun v wx => ∃ x : Nat, x < 4294967296 ∧ Hid (x = w4 B o) ∧ v = .int .u32 (x : Nat) ∧ ∃ k, wx = w.drewN k)
  case first =>
    go_quiet (fail)
    go_wp2_with fail
    go_meet
    exact ⟨_, (word4 y0 y1 y2 y3 m0 m1 m2 m3).2, hid (by rw [q0.out, q1.out, q2.out, q3.out]; rfl), congrArg _ (word4 y0 y1 y2 y3 m0 m1 m2 m3).1, _, rfl⟩
  case rest =>
    obtain ⟨X, hX, eX, rfl, p, rfl⟩ := hcut
    clear r0 r1 r2 r3 q0 q1 q2 q3
    go_upto_region 1 with fail
    go_cut [7] from 30 to 51 (fun v wx => ∃ x : Nat, x < 4294967296 ∧ Hid (x = w4 B (o + 4)) ∧ v = .int .u32 (x : Nat) ∧ ∃ k, wx = w.drewN k)
    case first =>
      go_quiet (fail)
      go_wp2_with fail
      go_meet
      exact ⟨_, (word4 y4 y5 y6 y7 m4 m5 m6 m7).2, hid (by rw [q4.out, q5.out, q6.out, q7.out]; rfl), congrArg _ (word4 y4 y5 y6 y7 m4 m5 m6 m7).1, _, World.drewN_drewN _ _ _⟩
    case rest =>
      obtain ⟨Y, hY, eY, rfl, q, rfl⟩ := hcut
      clear r4 r5 r6 r7 q4 q5 q6 q7
      go_wp2_with fail
      refine (encryptBlock_any gc X Y t (w.drewN q) hX hY HC.out).mono ?_
      rintro e w1 ⟨a, b, ha, hb, ea, eb, rfl, k, rfl⟩
      have HAB := hid (And.intro ea eb)
      clear ea eb
      have r0 := HB.out.cell (i := o) (by omega)
      have f0 := HB.out.free (o)
      have r1 := HB.out.cell (i := o + 1) (by omega)
      have f1 := HB.out.free (o + 1)
      have r2 := HB.out.cell (i := o + 2) (by omega)
      have f2 := HB.out.free (o + 2)
      have r3 := HB.out.cell (i := o + 3) (by omega)
      have f3 := HB.out.free (o + 3)
      have r4 := HB.out.cell (i := o + 4) (by omega)
      have f4 := HB.out.free (o + 4)
      have r5 := HB.out.cell (i := o + 5) (by omega)
      have f5 := HB.out.free (o + 5)
      have r6 := HB.out.cell (i := o + 6) (by omega)
      have f6 := HB.out.free (o + 6)
      have r7 := HB.out.cell (i := o + 7) (by omega)
      have f7 := HB.out.free (o + 7)
      go_wp2_with fail
      refine bodyPost_end (results_none rfl _ _ _) rfl ⟨rfl, ?_, ?_⟩
      · have h8 := stores8_row (o := o) (m := q + k) HB.out ha hb
        rw [HAB.out.1, HAB.out.2, eX.out, eY.out] at h8
        rw [HAB.out.1, HAB.out.2, eX.out, eY.out]
        exact h8
      · exact stores8_grown
#print axioms encrypt_any
end Go.Proofs.YtmglaaejobbbiaaDoor
