/-
  assemble64, assemble32, putBE64, putBE32: eight (four) numbers of six bits become the bytes of a number, highest first; a number that is 255 among them is told.
-/
import Derived.Test.YtmglaaejobbbiaaDoorRow
import Derived.BigQuiet
import Derived.Deep.QuietTactic
namespace Go.Proofs.YtmglaaejobbbiaaDoor
open Go.RowKit

theorem some_cell {w : World} {g : Nat} {cs : Array Value} {t : TypeId} (h : w.heap[g]? = some (.cells cs t (0, 0))) {i : Nat} (hi : i < cs.size) : ∃ v, w.cell? ⟨g, i, none⟩ = some v :=
  ⟨cs[i], (row_cell h i).trans (Array.getElem?_eq_getElem hi)⟩
theorem or_u8 (a b : Nat) (ha : a < 256) (hb : b < 256) : bits BinOp.or IntKind.u8 (a : Int) (b : Int) = ((a ||| b : Nat) : Int) := u8_or_nat a b ha hb
theorem or_lt8 {a b : Nat} (ha : a < 256) (hb : b < 256) : a ||| b < 256 := Nat.or_lt_two_pow (n := 8) ha hb
theorem or_lt6 {a b : Nat} (ha : a < 64) (hb : b < 64) : a ||| b < 64 := Nat.or_lt_two_pow (n := 6) ha hb
theorem or_255 {a b : Nat} (ha : a < 256) (hb : b < 256) (h : a = 255 ∨ b = 255) : a ||| b = 255 := by
  have h1 : a ||| b < 256 := or_lt8 ha hb
  rcases h with rfl | rfl
  · have := Nat.left_le_or (n := 255) (m := b); omega
  · have := Nat.right_le_or (n := a) (m := 255); omega

def or4 (v0 v1 v2 v3 : Nat) : Nat := v0 ||| v1 ||| v2 ||| v3
theorem or4_eq (v0 v1 v2 v3 : Nat) (h0 : v0 < 256) (h1 : v1 < 256) (h2 : v2 < 256) (h3 : v3 < 256) :
    bits BinOp.or IntKind.u8 (bits BinOp.or IntKind.u8 (bits BinOp.or IntKind.u8 (v0 : Int) (v1 : Int)) (v2 : Int)) (v3 : Int) = ((or4 v0 v1 v2 v3 : Nat) : Int) := by
  rw [or_u8 _ _ h0 h1, or_u8 _ _ (or_lt8 h0 h1) h2, or_u8 _ _ (or_lt8 (or_lt8 h0 h1) h2) h3]; rfl
theorem or4_lt8 {v0 v1 v2 v3 : Nat} (h0 : v0 < 256) (h1 : v1 < 256) (h2 : v2 < 256) (h3 : v3 < 256) : or4 v0 v1 v2 v3 < 256 := or_lt8 (or_lt8 (or_lt8 h0 h1) h2) h3
theorem or4_lt6 {v0 v1 v2 v3 : Nat} (h0 : v0 < 64) (h1 : v1 < 64) (h2 : v2 < 64) (h3 : v3 < 64) : or4 v0 v1 v2 v3 < 64 := or_lt6 (or_lt6 (or_lt6 h0 h1) h2) h3
theorem or4_255 {v0 v1 v2 v3 : Nat} (h0 : v0 < 256) (h1 : v1 < 256) (h2 : v2 < 256) (h3 : v3 < 256) (h : v0 = 255 ∨ v1 = 255 ∨ v2 = 255 ∨ v3 = 255) : or4 v0 v1 v2 v3 = 255 := by
  unfold or4
  rcases h with h | h | h | h
  · exact or_255 (or_lt8 (or_lt8 h0 h1) h2) h3 (.inl (or_255 (or_lt8 h0 h1) h2 (.inl (or_255 h0 h1 (.inl h)))))
  · exact or_255 (or_lt8 (or_lt8 h0 h1) h2) h3 (.inl (or_255 (or_lt8 h0 h1) h2 (.inl (or_255 h0 h1 (.inr h)))))
  · exact or_255 (or_lt8 (or_lt8 h0 h1) h2) h3 (.inl (or_255 (or_lt8 h0 h1) h2 (.inr h)))
  · exact or_255 (or_lt8 (or_lt8 h0 h1) h2) h3 (.inr h)
theorem or8_eq (v0 v1 v2 v3 v4 v5 v6 v7 : Nat) (h0 : v0 < 256) (h1 : v1 < 256) (h2 : v2 < 256) (h3 : v3 < 256) (h4 : v4 < 256) (h5 : v5 < 256) (h6 : v6 < 256) (h7 : v7 < 256) :
    bits BinOp.or IntKind.u8 (bits BinOp.or IntKind.u8 (bits BinOp.or IntKind.u8 (bits BinOp.or IntKind.u8 (bits BinOp.or IntKind.u8 (bits BinOp.or IntKind.u8 (bits BinOp.or IntKind.u8 (v0 : Int) (v1 : Int)) (v2 : Int)) (v3 : Int)) (v4 : Int)) (v5 : Int)) (v6 : Int)) (v7 : Int) =
      ((or4 v0 v1 v2 v3 ||| v4 ||| v5 ||| v6 ||| v7 : Nat) : Int) := by
  have b3 := or4_lt8 h0 h1 h2 h3
  rw [or4_eq v0 v1 v2 v3 h0 h1 h2 h3, or_u8 _ _ b3 h4, or_u8 _ _ (or_lt8 b3 h4) h5, or_u8 _ _ (or_lt8 (or_lt8 b3 h4) h5) h6, or_u8 _ _ (or_lt8 (or_lt8 (or_lt8 b3 h4) h5) h6) h7]

theorem join32 (A B i : Nat) (hA : A % 2 ^ i = 0) (hB : B < 2 ^ i) (hA2 : A < 4294967296) (hB2 : B < 4294967296) : bits BinOp.or IntKind.u32 (A : Int) (B : Int) = ((A + B : Nat) : Int) := by
  rw [u32_or_nat A B hA2 hB2, nat_join i A B hA hB]
theorem join64 (A B i : Nat) (hA : A % 2 ^ i = 0) (hB : B < 2 ^ i) (hA2 : A < 18446744073709551616) (hB2 : B < 18446744073709551616) : bits BinOp.or IntKind.u64 (A : Int) (B : Int) = ((A + B : Nat) : Int) := by
  rw [u64_or_nat A B hA2 hB2, nat_join i A B hA hB]

/-- Four numbers of six bits, the highest first, and a byte of zeros. -/
def num32 (v0 v1 v2 v3 : Nat) : Nat := v0 * 67108864 + v1 * 1048576 + v2 * 16384 + v3 * 256
theorem num32_eq (v0 v1 v2 v3 : Nat) (h0 : v0 < 64) (h1 : v1 < 64) (h2 : v2 < 64) (h3 : v3 < 64) :
    bits BinOp.or IntKind.u32 (bits BinOp.or IntKind.u32 (bits BinOp.or IntKind.u32 ((v0 : Int) * 67108864) ((v1 : Int) * 1048576)) ((v2 : Int) * 16384)) ((v3 : Int) * 256) = ((num32 v0 v1 v2 v3 : Nat) : Int) := by
  have e0 : ((v0 : Int) * 67108864) = ((v0 * 67108864 : Nat) : Int) := by omega
  have e1 : ((v1 : Int) * 1048576) = ((v1 * 1048576 : Nat) : Int) := by omega
  have e2 : ((v2 : Int) * 16384) = ((v2 * 16384 : Nat) : Int) := by omega
  have e3 : ((v3 : Int) * 256) = ((v3 * 256 : Nat) : Int) := by omega
  rw [e0, e1, e2, e3, join32 _ _ 26 (by omega) (by omega) (by omega) (by omega), join32 _ _ 20 (by omega) (by omega) (by omega) (by omega), join32 _ _ 14 (by omega) (by omega) (by omega) (by omega)]
  rfl

/-- Eight numbers of six bits, the highest first, and two bytes of zeros. -/
def num64 (v0 v1 v2 v3 v4 v5 v6 v7 : Nat) : Nat :=
  v0 * 288230376151711744 + v1 * 4503599627370496 + v2 * 70368744177664 + v3 * 1099511627776 + v4 * 17179869184 + v5 * 268435456 + v6 * 4194304 + v7 * 65536
theorem num64_eq (v0 v1 v2 v3 v4 v5 v6 v7 : Nat) (h0 : v0 < 64) (h1 : v1 < 64) (h2 : v2 < 64) (h3 : v3 < 64) (h4 : v4 < 64) (h5 : v5 < 64) (h6 : v6 < 64) (h7 : v7 < 64) :
    bits BinOp.or IntKind.u64 (bits BinOp.or IntKind.u64 (bits BinOp.or IntKind.u64 (bits BinOp.or IntKind.u64 (bits BinOp.or IntKind.u64 (bits BinOp.or IntKind.u64 (bits BinOp.or IntKind.u64 ((v0 : Int) * 288230376151711744) ((v1 : Int) * 4503599627370496)) ((v2 : Int) * 70368744177664)) ((v3 : Int) * 1099511627776))
      ((v4 : Int) * 17179869184)) ((v5 : Int) * 268435456)) ((v6 : Int) * 4194304)) ((v7 : Int) * 65536) = ((num64 v0 v1 v2 v3 v4 v5 v6 v7 : Nat) : Int) := by
  have e0 : ((v0 : Int) * 288230376151711744) = ((v0 * 288230376151711744 : Nat) : Int) := by omega
  have e1 : ((v1 : Int) * 4503599627370496) = ((v1 * 4503599627370496 : Nat) : Int) := by omega
  have e2 : ((v2 : Int) * 70368744177664) = ((v2 * 70368744177664 : Nat) : Int) := by omega
  have e3 : ((v3 : Int) * 1099511627776) = ((v3 * 1099511627776 : Nat) : Int) := by omega
  have e4 : ((v4 : Int) * 17179869184) = ((v4 * 17179869184 : Nat) : Int) := by omega
  have e5 : ((v5 : Int) * 268435456) = ((v5 * 268435456 : Nat) : Int) := by omega
  have e6 : ((v6 : Int) * 4194304) = ((v6 * 4194304 : Nat) : Int) := by omega
  have e7 : ((v7 : Int) * 65536) = ((v7 * 65536 : Nat) : Int) := by omega
  rw [e0, e1, e2, e3, e4, e5, e6, e7, join64 _ _ 58 (by omega) (by omega) (by omega) (by omega), join64 _ _ 52 (by omega) (by omega) (by omega) (by omega), join64 _ _ 46 (by omega) (by omega) (by omega) (by omega),
    join64 _ _ 40 (by omega) (by omega) (by omega) (by omega), join64 _ _ 34 (by omega) (by omega) (by omega) (by omega), join64 _ _ 28 (by omega) (by omega) (by omega) (by omega), join64 _ _ 22 (by omega) (by omega) (by omega) (by omega)]
  rfl

set_option maxHeartbeats 400000 in
theorem assemble32_good (v0 v1 v2 v3 : Nat) (w : World) (h0 : v0 < 64) (h1 : v1 < 64) (h2 : v2 < 64) (h3 : v3 < 64) :
    Calls Tryd.prog 48 #[.int .u8 (v0 : Nat), .int .u8 (v1 : Nat), .int .u8 (v2 : Nat), .int .u8 (v3 : Nat)] w fun e w' => e = .returned (.tuple #[.int .u32 (num32 v0 v1 v2 v3 : Nat), .bool true]) ∧ w = w' := by
  have e := or4_eq v0 v1 v2 v3 (by omega) (by omega) (by omega) (by omega)
  have l := or4_lt6 h0 h1 h2 h3
  obtain ⟨r, hr⟩ : ∃ r, r = or4 v0 v1 v2 v3 := ⟨_, rfl⟩
  rw [← hr] at e l
  have e2 : ((r : Int) == 255) = false := by rw [beq_eq_false_iff_ne]; omega
  have e3 := num32_eq v0 v1 v2 v3 h0 h1 h2 h3
  clear hr
  go_enter Tryd.func48, Tryd.ntmps48
  go_wp2_with fail
  go_ret2
  exact ⟨rfl, rfl⟩

set_option maxHeartbeats 400000 in
theorem assemble32_bad (v0 v1 v2 v3 : Nat) (w : World) (h0 : v0 < 256) (h1 : v1 < 256) (h2 : v2 < 256) (h3 : v3 < 256) (h : v0 = 255 ∨ v1 = 255 ∨ v2 = 255 ∨ v3 = 255) :
    Calls Tryd.prog 48 #[.int .u8 (v0 : Nat), .int .u8 (v1 : Nat), .int .u8 (v2 : Nat), .int .u8 (v3 : Nat)] w fun e w' => e = .returned (.tuple #[.int .u32 0, .bool false]) ∧ w = w' := by
  have e := or4_eq v0 v1 v2 v3 h0 h1 h2 h3
  rw [or4_255 h0 h1 h2 h3 h] at e
  have e2 : (((255 : Nat) : Int) == 255) = true := rfl
  clear h
  go_enter Tryd.func48, Tryd.ntmps48
  go_wp2_with fail
  go_ret2
  exact ⟨rfl, rfl⟩

set_option maxHeartbeats 1000000 in
theorem assemble64_good (v0 v1 v2 v3 v4 v5 v6 v7 : Nat) (w : World) (h0 : v0 < 64) (h1 : v1 < 64) (h2 : v2 < 64) (h3 : v3 < 64) (h4 : v4 < 64) (h5 : v5 < 64) (h6 : v6 < 64) (h7 : v7 < 64) :
    Calls Tryd.prog 45 #[.int .u8 (v0 : Nat), .int .u8 (v1 : Nat), .int .u8 (v2 : Nat), .int .u8 (v3 : Nat), .int .u8 (v4 : Nat), .int .u8 (v5 : Nat), .int .u8 (v6 : Nat), .int .u8 (v7 : Nat)] w fun e w' =>
      e = .returned (.tuple #[.int .u64 (num64 v0 v1 v2 v3 v4 v5 v6 v7 : Nat), .bool true]) ∧ w = w' := by
  have e := or8_eq v0 v1 v2 v3 v4 v5 v6 v7 (by omega) (by omega) (by omega) (by omega) (by omega) (by omega) (by omega) (by omega)
  have l := or_lt6 (or_lt6 (or_lt6 (or_lt6 (or4_lt6 h0 h1 h2 h3) h4) h5) h6) h7
  obtain ⟨r, hr⟩ : ∃ r, r = or4 v0 v1 v2 v3 ||| v4 ||| v5 ||| v6 ||| v7 := ⟨_, rfl⟩
  rw [← hr] at e l
  have e2 : ((r : Int) == 255) = false := by rw [beq_eq_false_iff_ne]; omega
  have e3 := num64_eq v0 v1 v2 v3 v4 v5 v6 v7 h0 h1 h2 h3 h4 h5 h6 h7
  clear hr
  go_enter Tryd.func45, Tryd.ntmps45
  go_wp2_with fail
  go_ret2
  exact ⟨rfl, rfl⟩

set_option maxHeartbeats 1000000 in
theorem assemble64_bad (v0 v1 v2 v3 v4 v5 v6 v7 : Nat) (w : World) (h0 : v0 < 256) (h1 : v1 < 256) (h2 : v2 < 256) (h3 : v3 < 256) (h4 : v4 < 256) (h5 : v5 < 256) (h6 : v6 < 256) (h7 : v7 < 256)
    (h : or4 v0 v1 v2 v3 ||| v4 ||| v5 ||| v6 ||| v7 = 255) :
    Calls Tryd.prog 45 #[.int .u8 (v0 : Nat), .int .u8 (v1 : Nat), .int .u8 (v2 : Nat), .int .u8 (v3 : Nat), .int .u8 (v4 : Nat), .int .u8 (v5 : Nat), .int .u8 (v6 : Nat), .int .u8 (v7 : Nat)] w fun e w' =>
      e = .returned (.tuple #[.int .u64 0, .bool false]) ∧ w = w' := by
  have e := or8_eq v0 v1 v2 v3 v4 v5 v6 v7 h0 h1 h2 h3 h4 h5 h6 h7
  rw [h] at e
  have e2 : (((255 : Nat) : Int) == 255) = true := rfl
  clear h
  go_enter Tryd.func45, Tryd.ntmps45
  go_wp2_with fail
  go_ret2
  exact ⟨rfl, rfl⟩

/-- What putBE64 (n = 8, top = 56), putBE32 (n = 4, top = 24) leave. -/
def PutPost (g o n top V : Nat) (cs : Array Value) (T : TypeId) (w : World) (e : Ending) (w' : World) : Prop :=
  e = .returned (.tuple #[]) ∧ ∃ cs', w'.heap[g]? = some (.cells cs' T (0, 0)) ∧ cs'.size = cs.size ∧ (∀ i, i < n → cs'[o + i]? = some (.int .u8 ((V / 2 ^ (top - 8 * i) % 256 : Nat) : Int))) ∧ (∀ m, (m < o ∨ o + n ≤ m) → cs'[m]? = cs[m]?) ∧ w.grownBy w' (some g)

theorem put_cell {g o k top V : Nat} {cs : Array Value} {T : TypeId} {w wr : World} {e : Ending} (h : PutPost g o k top V cs T w e wr) (hsz : o + k < cs.size) :
    ∃ d, wr.cell? ⟨g, o + k, none⟩ = some d ∧ wr.frozen? ⟨g, o + k, none⟩ = false := by
  obtain ⟨_, cr, hr, hs, _⟩ := h
  obtain ⟨d, hd⟩ := some_cell (i := o + k) hr (by omega)
  exact ⟨d, hd, row_free hr _⟩
theorem put_step {g o k top V : Nat} {cs : Array Value} {T : TypeId} {w wr : World} (h : PutPost g o k top V cs T w (.returned (.tuple #[])) wr) (hsz : o + k < cs.size) :
    PutPost g o (k + 1) top V cs T w (.returned (.tuple #[])) (wr.setCell ⟨g, o + k, none⟩ (.int .u8 ((V : Int) / 2 ^ (top - 8 * k) % 256))) := by
  obtain ⟨_, cr, hr, hs, hin, hout, hg⟩ := h
  have ev : ((V : Int) / 2 ^ (top - 8 * k) % 256) = ((V / 2 ^ (top - 8 * k) % 256 : Nat) : Int) := by simp
  refine ⟨rfl, _, row_set hr _ _, by simpa using hs, fun i hi => ?_, fun m hm => ?_, grown_trans hg (grown_setCell wr g _ _)⟩
  · rw [Array.getElem?_setIfInBounds]
    by_cases e : i = k
    · subst e
      rw [if_pos rfl, if_pos (by omega), ev]
    · rw [if_neg (by omega)]
      exact hin i (by omega)
  · rw [Array.getElem?_setIfInBounds, if_neg (by omega)]
    exact hout m (by omega)

set_option maxHeartbeats 1000000 in
theorem putBE64_any (g o l c V : Nat) (cs : Array Value) (T : TypeId) (w : World) (hl : 8 ≤ l) (_hV : V < 18446744073709551616) (hrow : w.heap[g]? = some (.cells cs T (0, 0))) (hsz : o + 8 ≤ cs.size) :
    Calls Tryd.prog 46 #[.slice (some ⟨g, o, none⟩) l c, .int .u64 (V : Nat)] w (PutPost g o 8 56 V cs T w) := by
  have H := hid (And.intro hrow hsz)
  clear hrow hsz
  go_enter Tryd.func46, Tryd.ntmps46
  go_wp2_with fail
  go_loopw [4] (fun i wr => ∃ k : Nat, k ≤ 8 ∧ i = .int .i64 (k : Int) ∧ Hid (PutPost g o k 56 V cs T w (.returned (.tuple #[])) wr)) (fun i _ => 8 - (intOf i).toNat)
  case atStart => exact ⟨0, by omega, rfl, rfl, cs, H.out.1, rfl, fun i hi => by omega, fun m _ => rfl, ⟨rfl, rfl, rfl, Nat.le_refl _, fun _ _ _ => rfl⟩⟩
  case round =>
    obtain ⟨k, hk, rfl, hp⟩ := hrel
    by_cases hlt : k < 8
    · obtain ⟨d, hd, hf⟩ := put_cell hp.out (by have := H.out.2; omega)
      have hkl : (k : Int) < (l : Int) := by omega
      go_wp2_with fail
      go_roundw
      case rel => exact ⟨k + 1, by omega, by go_num, hid (put_step hp.out (by have := H.out.2; omega))⟩
      case measure => simp only [intOf]; omega
    · obtain rfl : k = 8 := by omega
      go_wp2_with fail
      exact bodyPost_end (results_none rfl _ _ _) rfl hp.out

set_option maxHeartbeats 1000000 in
theorem putBE32_any (g o l c V : Nat) (cs : Array Value) (T : TypeId) (w : World) (hl : 4 ≤ l) (_hV : V < 4294967296) (hrow : w.heap[g]? = some (.cells cs T (0, 0))) (hsz : o + 4 ≤ cs.size) :
    Calls Tryd.prog 49 #[.slice (some ⟨g, o, none⟩) l c, .int .u32 (V : Nat)] w (PutPost g o 4 24 V cs T w) := by
  have H := hid (And.intro hrow hsz)
  clear hrow hsz
  go_enter Tryd.func49, Tryd.ntmps49
  go_wp2_with fail
  go_loopw [4] (fun i wr => ∃ k : Nat, k ≤ 4 ∧ i = .int .i64 (k : Int) ∧ Hid (PutPost g o k 24 V cs T w (.returned (.tuple #[])) wr)) (fun i _ => 4 - (intOf i).toNat)
  case atStart => exact ⟨0, by omega, rfl, rfl, cs, H.out.1, rfl, fun i hi => by omega, fun m _ => rfl, ⟨rfl, rfl, rfl, Nat.le_refl _, fun _ _ _ => rfl⟩⟩
  case round =>
    obtain ⟨k, hk, rfl, hp⟩ := hrel
    by_cases hlt : k < 4
    · obtain ⟨d, hd, hf⟩ := put_cell hp.out (by have := H.out.2; omega)
      have hkl : (k : Int) < (l : Int) := by omega
      go_wp2_with fail
      go_roundw
      case rel => exact ⟨k + 1, by omega, by go_num, hid (put_step hp.out (by have := H.out.2; omega))⟩
      case measure => simp only [intOf]; omega
    · obtain rfl : k = 4 := by omega
      go_wp2_with fail
      exact bodyPost_end (results_none rfl _ _ _) rfl hp.out

#print axioms assemble64_good
end Go.Proofs.YtmglaaejobbbiaaDoor
