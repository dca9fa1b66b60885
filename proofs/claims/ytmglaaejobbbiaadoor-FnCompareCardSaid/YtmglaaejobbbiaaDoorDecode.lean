/-
  (*Encoding).Decode of a padded text: Z signs, then a byte that is none. If that byte is a sign of filling, and just so many stand there as are wanted, the bytes are read; if it is none and no line end either, there is an error.
-/
import Derived.Test.YtmglaaejobbbiaaDoorQuantum
import Derived.Test.YtmglaaejobbbiaaDoorEncode
namespace Go.Proofs.YtmglaaejobbbiaaDoor
open Go.RowKit

/-- Byte i of what a text of signs says. -/
def decB (cs : List Nat) (i : Nat) : Nat := qb cs (4 * (i / 3)) (i % 3)
theorem decB_at (cs : List Nat) (q r : Nat) (h : r < 3) : decB cs (3 * q + r) = qb cs (4 * q) r := by
  unfold decB
  rw [show (3 * q + r) / 3 = q by omega, show (3 * q + r) % 3 = r by omega]
theorem decB_at2 (cs : List Nat) (q r : Nat) (h : r < 3) : decB cs (3 * q + (3 + r)) = qb cs (4 * q + 4) r := by
  rw [show 3 * q + (3 + r) = 3 * (q + 1) + r by omega, decB_at cs _ r h, show 4 * (q + 1) = 4 * q + 4 by omega]

theorem num64_b0 (v0 v1 v2 v3 v4 v5 v6 v7 : Nat) (_h0 : v0 < 64) (_h1 : v1 < 64) (_h2 : v2 < 64) (_h3 : v3 < 64) (_h4 : v4 < 64) (_h5 : v5 < 64) (_h6 : v6 < 64) (_h7 : v7 < 64) : num64 v0 v1 v2 v3 v4 v5 v6 v7 / 2 ^ (56 - 8 * 0) % 256 = v0 * 4 + v1 / 16 := by
  unfold num64
  simp only [Nat.reduceMul, Nat.reduceSub, Nat.reducePow]
  omega
theorem num64_b1 (v0 v1 v2 v3 v4 v5 v6 v7 : Nat) (_h0 : v0 < 64) (_h1 : v1 < 64) (_h2 : v2 < 64) (_h3 : v3 < 64) (_h4 : v4 < 64) (_h5 : v5 < 64) (_h6 : v6 < 64) (_h7 : v7 < 64) : num64 v0 v1 v2 v3 v4 v5 v6 v7 / 2 ^ (56 - 8 * 1) % 256 = v1 % 16 * 16 + v2 / 4 := by
  unfold num64
  simp only [Nat.reduceMul, Nat.reduceSub, Nat.reducePow]
  omega
theorem num64_b2 (v0 v1 v2 v3 v4 v5 v6 v7 : Nat) (_h0 : v0 < 64) (_h1 : v1 < 64) (_h2 : v2 < 64) (_h3 : v3 < 64) (_h4 : v4 < 64) (_h5 : v5 < 64) (_h6 : v6 < 64) (_h7 : v7 < 64) : num64 v0 v1 v2 v3 v4 v5 v6 v7 / 2 ^ (56 - 8 * 2) % 256 = v2 % 4 * 64 + v3 := by
  unfold num64
  simp only [Nat.reduceMul, Nat.reduceSub, Nat.reducePow]
  omega
theorem num64_b3 (v0 v1 v2 v3 v4 v5 v6 v7 : Nat) (_h0 : v0 < 64) (_h1 : v1 < 64) (_h2 : v2 < 64) (_h3 : v3 < 64) (_h4 : v4 < 64) (_h5 : v5 < 64) (_h6 : v6 < 64) (_h7 : v7 < 64) : num64 v0 v1 v2 v3 v4 v5 v6 v7 / 2 ^ (56 - 8 * 3) % 256 = v4 * 4 + v5 / 16 := by
  unfold num64
  simp only [Nat.reduceMul, Nat.reduceSub, Nat.reducePow]
  omega
theorem num64_b4 (v0 v1 v2 v3 v4 v5 v6 v7 : Nat) (_h0 : v0 < 64) (_h1 : v1 < 64) (_h2 : v2 < 64) (_h3 : v3 < 64) (_h4 : v4 < 64) (_h5 : v5 < 64) (_h6 : v6 < 64) (_h7 : v7 < 64) : num64 v0 v1 v2 v3 v4 v5 v6 v7 / 2 ^ (56 - 8 * 4) % 256 = v5 % 16 * 16 + v6 / 4 := by
  unfold num64
  simp only [Nat.reduceMul, Nat.reduceSub, Nat.reducePow]
  omega
theorem num64_b5 (v0 v1 v2 v3 v4 v5 v6 v7 : Nat) (_h0 : v0 < 64) (_h1 : v1 < 64) (_h2 : v2 < 64) (_h3 : v3 < 64) (_h4 : v4 < 64) (_h5 : v5 < 64) (_h6 : v6 < 64) (_h7 : v7 < 64) : num64 v0 v1 v2 v3 v4 v5 v6 v7 / 2 ^ (56 - 8 * 5) % 256 = v6 % 4 * 64 + v7 := by
  unfold num64
  simp only [Nat.reduceMul, Nat.reduceSub, Nat.reducePow]
  omega
theorem num64_dec {cs : List Nat} {q v0 v1 v2 v3 v4 v5 v6 v7 : Nat} (e0 : v0 = dmap (byteAt cs (4 * q + 0))) (e1 : v1 = dmap (byteAt cs (4 * q + 1))) (e2 : v2 = dmap (byteAt cs (4 * q + 2))) (e3 : v3 = dmap (byteAt cs (4 * q + 3))) (e4 : v4 = dmap (byteAt cs (4 * q + 4))) (e5 : v5 = dmap (byteAt cs (4 * q + 5))) (e6 : v6 = dmap (byteAt cs (4 * q + 6))) (e7 : v7 = dmap (byteAt cs (4 * q + 7))) (h0 : v0 < 64) (h1 : v1 < 64) (h2 : v2 < 64) (h3 : v3 < 64) (h4 : v4 < 64) (h5 : v5 < 64) (h6 : v6 < 64) (h7 : v7 < 64) :
    ∀ r, r < 6 → num64 v0 v1 v2 v3 v4 v5 v6 v7 / 2 ^ (56 - 8 * r) % 256 = decB cs (3 * q + r) := by
  intro r hr
  rcases (show r = 0 ∨ r = 1 ∨ r = 2 ∨ r = 3 ∨ r = 4 ∨ r = 5 by omega) with rfl | rfl | rfl | rfl | rfl | rfl
  · have e : decB cs (3 * q + 0) = _ := decB_at cs q 0 (by decide)
    rw [e, num64_b0 v0 v1 v2 v3 v4 v5 v6 v7 h0 h1 h2 h3 h4 h5 h6 h7, qb_0]
    subst e0 e1 e2 e3 e4 e5 e6 e7
    rfl
  · have e : decB cs (3 * q + 1) = _ := decB_at cs q 1 (by decide)
    rw [e, num64_b1 v0 v1 v2 v3 v4 v5 v6 v7 h0 h1 h2 h3 h4 h5 h6 h7, qb_1]
    subst e0 e1 e2 e3 e4 e5 e6 e7
    rfl
  · have e : decB cs (3 * q + 2) = _ := decB_at cs q 2 (by decide)
    rw [e, num64_b2 v0 v1 v2 v3 v4 v5 v6 v7 h0 h1 h2 h3 h4 h5 h6 h7, qb_2]
    subst e0 e1 e2 e3 e4 e5 e6 e7
    rfl
  · have e : decB cs (3 * q + 3) = _ := decB_at2 cs q 0 (by decide)
    rw [e, num64_b3 v0 v1 v2 v3 v4 v5 v6 v7 h0 h1 h2 h3 h4 h5 h6 h7, qb_0]
    subst e0 e1 e2 e3 e4 e5 e6 e7
    rfl
  · have e : decB cs (3 * q + 4) = _ := decB_at2 cs q 1 (by decide)
    rw [e, num64_b4 v0 v1 v2 v3 v4 v5 v6 v7 h0 h1 h2 h3 h4 h5 h6 h7, qb_1]
    subst e0 e1 e2 e3 e4 e5 e6 e7
    rfl
  · have e : decB cs (3 * q + 5) = _ := decB_at2 cs q 2 (by decide)
    rw [e, num64_b5 v0 v1 v2 v3 v4 v5 v6 v7 h0 h1 h2 h3 h4 h5 h6 h7, qb_2]
    subst e0 e1 e2 e3 e4 e5 e6 e7
    rfl
theorem num32_b0 (v0 v1 v2 v3 : Nat) (_h0 : v0 < 64) (_h1 : v1 < 64) (_h2 : v2 < 64) (_h3 : v3 < 64) : num32 v0 v1 v2 v3 / 2 ^ (24 - 8 * 0) % 256 = v0 * 4 + v1 / 16 := by
  unfold num32
  simp only [Nat.reduceMul, Nat.reduceSub, Nat.reducePow]
  omega
theorem num32_b1 (v0 v1 v2 v3 : Nat) (_h0 : v0 < 64) (_h1 : v1 < 64) (_h2 : v2 < 64) (_h3 : v3 < 64) : num32 v0 v1 v2 v3 / 2 ^ (24 - 8 * 1) % 256 = v1 % 16 * 16 + v2 / 4 := by
  unfold num32
  simp only [Nat.reduceMul, Nat.reduceSub, Nat.reducePow]
  omega
theorem num32_b2 (v0 v1 v2 v3 : Nat) (_h0 : v0 < 64) (_h1 : v1 < 64) (_h2 : v2 < 64) (_h3 : v3 < 64) : num32 v0 v1 v2 v3 / 2 ^ (24 - 8 * 2) % 256 = v2 % 4 * 64 + v3 := by
  unfold num32
  simp only [Nat.reduceMul, Nat.reduceSub, Nat.reducePow]
  omega
theorem num32_dec {cs : List Nat} {q v0 v1 v2 v3 : Nat} (e0 : v0 = dmap (byteAt cs (4 * q + 0))) (e1 : v1 = dmap (byteAt cs (4 * q + 1))) (e2 : v2 = dmap (byteAt cs (4 * q + 2))) (e3 : v3 = dmap (byteAt cs (4 * q + 3))) (h0 : v0 < 64) (h1 : v1 < 64) (h2 : v2 < 64) (h3 : v3 < 64) :
    ∀ r, r < 3 → num32 v0 v1 v2 v3 / 2 ^ (24 - 8 * r) % 256 = decB cs (3 * q + r) := by
  intro r hr
  rcases (show r = 0 ∨ r = 1 ∨ r = 2 by omega) with rfl | rfl | rfl
  · have e : decB cs (3 * q + 0) = _ := decB_at cs q 0 (by decide)
    rw [e, num32_b0 v0 v1 v2 v3 h0 h1 h2 h3, qb_0]
    subst e0 e1 e2 e3
    rfl
  · have e : decB cs (3 * q + 1) = _ := decB_at cs q 1 (by decide)
    rw [e, num32_b1 v0 v1 v2 v3 h0 h1 h2 h3, qb_1]
    subst e0 e1 e2 e3
    rfl
  · have e : decB cs (3 * q + 2) = _ := decB_at cs q 2 (by decide)
    rw [e, num32_b2 v0 v1 v2 v3 h0 h1 h2 h3, qb_2]
    subst e0 e1 e2 e3
    rfl

/-- N bytes are read. -/
def DRel (gd ld N : Nat) (cs : List Nat) (w wr : World) : Prop :=
  ∃ csd, wr.heap[gd]? = some (.cells csd 5 (0, 0)) ∧ csd.size = ld ∧ (∀ i, i < N → csd[i]? = some (.int .u8 (decB cs i : Nat))) ∧ w.grownBy wr (some gd)
theorem DRel.drew {gd ld N : Nat} {cs : List Nat} {w wr : World} (h : DRel gd ld N cs w wr) (k : Nat) : DRel gd ld N cs w (wr.drewN k) := by
  obtain ⟨csd, h1, h2, h3, h4⟩ := h
  exact ⟨csd, h1, h2, h3, grown_trans h4 (grown_drewN wr _ k)⟩

theorem drel_put {gd ld N k n top V : Nat} {cs : List Nat} {csd : Array Value} {w wr w2 : World} {e : Ending} (hsz : csd.size = ld) (hin : ∀ i, i < N → csd[i]? = some (.int .u8 (decB cs i : Nat))) (hg : w.grownBy wr (some gd))
    (hput : PutPost gd N n top V csd 5 wr e w2) (hk : k ≤ n) (hv : ∀ r, r < k → V / 2 ^ (top - 8 * r) % 256 = decB cs (N + r)) : DRel gd ld (N + k) cs w w2 := by
  obtain ⟨_, c2, hr2, hs2, hi2, ho2, hg2⟩ := hput
  refine ⟨c2, hr2, by omega, fun i hi => ?_, grown_trans hg hg2⟩
  by_cases h0 : i < N
  · rw [ho2 i (.inl h0)]; exact hin i h0
  · obtain ⟨r, rfl⟩ : ∃ r, i = N + r := ⟨i - N, by omega⟩
    rw [hi2 r (by omega), hv r (by omega)]
theorem drel_q {gd ld q m : Nat} {cs : List Nat} {csd : Array Value} {w wr w2 : World} {e : Ending} (hsz : csd.size = ld) (hin : ∀ i, i < 3 * q → csd[i]? = some (.int .u8 (decB cs i : Nat))) (hg : w.grownBy wr (some gd))
    (hq : QGood gd (3 * q) (4 * q) m cs csd wr e w2) (hm : m ≤ 3) : DRel gd ld (3 * q + m) cs w w2 := by
  obtain ⟨_, c2, hr2, hs2, hi2, ho2, hg2⟩ := hq
  refine ⟨c2, hr2, by omega, fun i hi => ?_, grown_trans hg hg2⟩
  by_cases h0 : i < 3 * q
  · rw [ho2 i (.inl h0)]; exact hin i h0
  · obtain ⟨r, rfl⟩ : ∃ r, i = 3 * q + r := ⟨i - 3 * q, by omega⟩
    rw [hi2 r (by omega), decB_at cs q r (by omega)]

/-- What Decode leaves: m bytes, and an error or none. -/
def DecPost (gd ld m : Nat) (err : Value) (cs : List Nat) (w : World) (e : Ending) (w' : World) : Prop :=
  e = .returned (.tuple #[.int .i64 (m : Int), err]) ∧ DRel gd ld m cs w w'
/-- How a text goes on behind Z signs: as much filling as is wanted, or a byte that is none of what may stand there. -/
def DecEnd (cs : List Nat) (Q Z m : Nat) (err : Value) : Prop :=
  (∃ t, (t = 2 ∨ t = 3) ∧ Z + 4 = 4 * Q + t ∧ (∀ j, Z ≤ j → j < 4 * Q → byteAt cs j = 61) ∧ m + 4 = 3 * Q + t ∧ err = .nilIface) ∨
  (byteAt cs Z ≠ 10 ∧ byteAt cs Z ≠ 13 ∧ byteAt cs Z ≠ 61 ∧ m = 3 * (Z / 4) ∧ err = .iface 110 (.int .i64 (Z : Int)))

theorem drel_fast64 {gd ld q N S V k v0 v1 v2 v3 v4 v5 v6 v7 : Nat} {cs : List Nat} {csd : Array Value} {w wr w2 : World} {e : Ending} (hS : S = 4 * q) (hN : N = 3 * q)
    (HW : wr.heap[gd]? = some (.cells csd 5 (0, 0)) ∧ csd.size = ld ∧ (∀ i, i < 3 * q → csd[i]? = some (.int .u8 (decB cs i : Nat))) ∧ w.grownBy wr (some gd))
    (hput : PutPost gd N 8 56 V csd 5 (wr.drewN k) e w2) (hV : V = num64 v0 v1 v2 v3 v4 v5 v6 v7) (e0 : v0 = dmap (byteAt cs S)) (e1 : v1 = dmap (byteAt cs (S + 1))) (e2 : v2 = dmap (byteAt cs (S + 2))) (e3 : v3 = dmap (byteAt cs (S + 3))) (e4 : v4 = dmap (byteAt cs (S + 4))) (e5 : v5 = dmap (byteAt cs (S + 5))) (e6 : v6 = dmap (byteAt cs (S + 6))) (e7 : v7 = dmap (byteAt cs (S + 7))) (h0 : v0 < 64) (h1 : v1 < 64) (h2 : v2 < 64) (h3 : v3 < 64) (h4 : v4 < 64) (h5 : v5 < 64) (h6 : v6 < 64) (h7 : v7 < 64) : DRel gd ld (3 * (q + 2)) cs w w2 := by
  subst hS hN hV
  exact drel_put (k := 6) HW.2.1 HW.2.2.1 (grown_trans HW.2.2.2 (grown_drewN wr _ k)) hput (by decide) (num64_dec e0 e1 e2 e3 e4 e5 e6 e7 h0 h1 h2 h3 h4 h5 h6 h7)
theorem drel_fast32 {gd ld q N S V k v0 v1 v2 v3 : Nat} {cs : List Nat} {csd : Array Value} {w wr w2 : World} {e : Ending} (hS : S = 4 * q) (hN : N = 3 * q)
    (HW : wr.heap[gd]? = some (.cells csd 5 (0, 0)) ∧ csd.size = ld ∧ (∀ i, i < 3 * q → csd[i]? = some (.int .u8 (decB cs i : Nat))) ∧ w.grownBy wr (some gd))
    (hput : PutPost gd N 4 24 V csd 5 (wr.drewN k) e w2) (hV : V = num32 v0 v1 v2 v3) (e0 : v0 = dmap (byteAt cs S)) (e1 : v1 = dmap (byteAt cs (S + 1))) (e2 : v2 = dmap (byteAt cs (S + 2))) (e3 : v3 = dmap (byteAt cs (S + 3))) (h0 : v0 < 64) (h1 : v1 < 64) (h2 : v2 < 64) (h3 : v3 < 64) : DRel gd ld (3 * (q + 1)) cs w w2 := by
  subst hS hN hV
  exact drel_put (k := 3) HW.2.1 HW.2.2.1 (grown_trans HW.2.2.2 (grown_drewN wr _ k)) hput (by decide) (num32_dec e0 e1 e2 e3 h0 h1 h2 h3)
theorem or8_255 {v0 v1 v2 v3 v4 v5 v6 v7 : Nat} (h0 : v0 < 256) (h1 : v1 < 256) (h2 : v2 < 256) (h3 : v3 < 256) (h4 : v4 < 256) (h5 : v5 < 256) (h6 : v6 < 256) (h7 : v7 < 256) (h : v0 = 255 ∨ v1 = 255 ∨ v2 = 255 ∨ v3 = 255 ∨ v4 = 255 ∨ v5 = 255 ∨ v6 = 255 ∨ v7 = 255) : or4 v0 v1 v2 v3 ||| v4 ||| v5 ||| v6 ||| v7 = 255 := by
  have a3 := or4_lt8 h0 h1 h2 h3
  have a4 := or_lt8 a3 h4
  have a5 := or_lt8 a4 h5
  have a6 := or_lt8 a5 h6
  have key : or4 v0 v1 v2 v3 = 255 ∨ v4 = 255 ∨ v5 = 255 ∨ v6 = 255 ∨ v7 = 255 := by
    rcases h with h | h | h | h | h
    · exact .inl (or4_255 h0 h1 h2 h3 (.inl h))
    · exact .inl (or4_255 h0 h1 h2 h3 (.inr (.inl h)))
    · exact .inl (or4_255 h0 h1 h2 h3 (.inr (.inr (.inl h))))
    · exact .inl (or4_255 h0 h1 h2 h3 (.inr (.inr (.inr h))))
    · exact .inr h
  rcases key with h | h | h | h | h
  · exact or_255 a6 h7 (.inl (or_255 a5 h6 (.inl (or_255 a4 h5 (.inl (or_255 a3 h4 (.inl h)))))))
  · exact or_255 a6 h7 (.inl (or_255 a5 h6 (.inl (or_255 a4 h5 (.inl (or_255 a3 h4 (.inr h)))))))
  · exact or_255 a6 h7 (.inl (or_255 a5 h6 (.inl (or_255 a4 h5 (.inr h)))))
  · exact or_255 a6 h7 (.inl (or_255 a5 h6 (.inr h)))
  · exact or_255 a6 h7 (.inr h)

theorem drel_slow {gd ld q N S m k : Nat} {cs : List Nat} {csd : Array Value} {w wr w2 : World} {e : Ending} (hS : S = 4 * q) (hN : N = 3 * q)
    (HW : wr.heap[gd]? = some (.cells csd 5 (0, 0)) ∧ csd.size = ld ∧ (∀ i, i < 3 * q → csd[i]? = some (.int .u8 (decB cs i : Nat))) ∧ w.grownBy wr (some gd))
    (hq : QGood gd N S m cs csd (wr.drewN k) e w2) (hm : m ≤ 3) : DRel gd ld (3 * q + m) cs w w2 := by
  subst hS hN
  exact drel_q HW.2.1 HW.2.2.1 (grown_trans HW.2.2.2 (grown_drewN wr _ k)) hq hm
theorem dec_bad {cs : List Nat} {q n Q Z m : Nat} {err : Value} (h : DecEnd cs Q Z m err) (hn : 2 ≤ n) (hq : q + n ≤ Q) (hZ : Z < 4 * q + 4) :
    byteAt cs Z ≠ 10 ∧ byteAt cs Z ≠ 13 ∧ byteAt cs Z ≠ 61 ∧ m = 3 * (Z / 4) ∧ err = .iface 110 (.int .i64 (Z : Int)) := by
  rcases h with ⟨t, ht, h1, _⟩ | h
  · omega
  · exact h

theorem dec_end_bad {gd ld q N S m k Z t : Nat} {err : Value} {cs : List Nat} {csd : Array Value} {w wr w2 : World} (hS : S = 4 * q) (hN : N = 3 * q)
    (HW : wr.heap[gd]? = some (.cells csd 5 (0, 0)) ∧ csd.size = ld ∧ (∀ i, i < 3 * q → csd[i]? = some (.int .u8 (decB cs i : Nat))) ∧ w.grownBy wr (some gd))
    (hg : (wr.drewN k).grownBy w2 none) (hm : m = 3 * (Z / 4)) (he : err = .iface 110 (.int .i64 (Z : Int))) (hZ : Z = S + t) (ht : t < 4) :
    DecPost gd ld m err cs w (.returned (.tuple #[.int .i64 (N : Int), .iface 110 (.int .i64 ((S : Int) + (t : Int)))])) w2 := by
  obtain rfl : m = N := by omega
  subst he hN
  refine ⟨by rw [hZ]; rfl, csd, (hg.block gd (row_lt HW.1) (by simp)).trans HW.1, HW.2.1, HW.2.2.1, grown_trans HW.2.2.2 (grown_trans (grown_drewN wr _ k) (grown_any hg _))⟩
theorem drewN_0 (w : World) : w.drewN 0 = w := rfl

set_option maxHeartbeats 4000000 in
set_option maxRecDepth 100000 in
theorem decode_any (ge b o L c gd ld Q Z m : Nat) (err : Value) (cs : List Nat) (csd0 : Array Value) (w : World) (hL : L = 4 * Q) (hld : ld = 3 * Q) (hZ : Z < L) (hLb : L ≤ 4194304) (hLc : L ≤ c) (hlen : cs.length = L) (hx : Bytes cs) (he : IsEnc w ge)
    (hs : ∀ j, j < L → w.cell? ⟨b, o + j, none⟩ = some (.int .u8 (byteAt cs j : Nat))) (hgood : ∀ j, j < Z → dmap (byteAt cs j) < 64) (hbad : dmap (byteAt cs Z) = 255)
    (hd : w.heap[gd]? = some (.cells csd0 5 (0, 0))) (hdl : csd0.size = ld) (hge : gd ≠ ge) (hgb : gd ≠ b) (hend : DecEnd cs Q Z m err) :
    Calls Tryd.prog 35 #[.pointer (some ⟨ge, 0, none⟩), .slice (some ⟨gd, 0, none⟩) ld ld, .slice (some ⟨b, o, none⟩) L c] w (DecPost gd ld m err cs w) := by
  have hgl : gd < w.heap.size := row_lt hd
  have hge2 : some ge ≠ some gd := fun h => hge (by injection h with h; exact h.symm)
  have HD0 : Hid (DRel gd ld (3 * 0) cs w w) := ⟨csd0, hd, hdl, fun i hi => by omega, ⟨rfl, rfl, rfl, Nat.le_refl _, fun _ _ _ => rfl⟩⟩
  have HH := hid (And.intro hlen (And.intro hx (And.intro he (And.intro hs (And.intro hgood (And.intro hbad hend))))))
  have HL := hid (And.intro hL hld)
  have hn0 : ((L : Int) == 0) = false := by rw [beq_eq_false_iff_ne]; omega
  have hldb : ld ≤ 4194304 := by omega
  clear hlen hx he hs hgood hbad hend hL hld hd hdl
  go_enter Tryd.func35, Tryd.ntmps35
  go_wp2_with ((with_reducible refine atOp (o := ⟨some 24, _, _, _, _, _⟩) ?_); refine wpList_load_cells rfl 72 (.tmp 23) rfl ge 64 256 rfl _ Tryd.underlying72 rfl (by kernel_rfl) (fun i => .int .u8 (dmap i : Nat)) (fun j hj => HH.out.2.2.1.dec j hj) ?_; intro v24)
  go_loopw [6, 7, 8] (fun s6 s7 s8 wr => ∃ q : Nat, q < Q ∧ 4 * q ≤ Z ∧ s6 = .int .i64 ((3 * q : Nat) : Int) ∧ s7 = .nilIface ∧ s8 = .int .i64 ((4 * q : Nat) : Int) ∧ Hid (DRel gd ld (3 * q) cs w wr)) (fun _ _ s8 _ => L - (intOf s8).toNat)
  case atStart => exact ⟨0, by have := HL.out.1; omega, by omega, rfl, rfl, rfl, HD0⟩
  case round =>
    obtain ⟨q, hqQ, hqZ, rfl, rfl, rfl, hq⟩ := hrel
    by_cases h8 : q + 3 ≤ Q
    · obtain ⟨S, hS⟩ : ∃ S, S = 4 * q := ⟨_, rfl⟩
      obtain ⟨N, hN⟩ : ∃ N, N = 3 * q := ⟨_, rfl⟩
      rw [← hS, ← hN]
      obtain ⟨csd, hrow, hsz, hin, hg⟩ := hq.out
      have hew := HH.out.2.2.1.grown hg hge2
      have c0 := src_cell hg hgb HH.out.2.2.2.1 (k := S) (by have := HL.out; omega)
      have l0 := HH.out.2.1 S
      have d0 := hew.dec (byteAt cs S) l0
      have b0 : dmap (byteAt cs S) < 256 := by rcases dmap_or _ l0 with h | h <;> omega
      have c1 := src_cell hg hgb HH.out.2.2.2.1 (k := (S + 1)) (by have := HL.out; omega)
      rw [← Nat.add_assoc] at c1
      have l1 := HH.out.2.1 (S + 1)
      have d1 := hew.dec (byteAt cs (S + 1)) l1
      have b1 : dmap (byteAt cs (S + 1)) < 256 := by rcases dmap_or _ l1 with h | h <;> omega
      have c2 := src_cell hg hgb HH.out.2.2.2.1 (k := (S + 2)) (by have := HL.out; omega)
      rw [← Nat.add_assoc] at c2
      have l2 := HH.out.2.1 (S + 2)
      have d2 := hew.dec (byteAt cs (S + 2)) l2
      have b2 : dmap (byteAt cs (S + 2)) < 256 := by rcases dmap_or _ l2 with h | h <;> omega
      have c3 := src_cell hg hgb HH.out.2.2.2.1 (k := (S + 3)) (by have := HL.out; omega)
      rw [← Nat.add_assoc] at c3
      have l3 := HH.out.2.1 (S + 3)
      have d3 := hew.dec (byteAt cs (S + 3)) l3
      have b3 : dmap (byteAt cs (S + 3)) < 256 := by rcases dmap_or _ l3 with h | h <;> omega
      have c4 := src_cell hg hgb HH.out.2.2.2.1 (k := (S + 4)) (by have := HL.out; omega)
      rw [← Nat.add_assoc] at c4
      have l4 := HH.out.2.1 (S + 4)
      have d4 := hew.dec (byteAt cs (S + 4)) l4
      have b4 : dmap (byteAt cs (S + 4)) < 256 := by rcases dmap_or _ l4 with h | h <;> omega
      have c5 := src_cell hg hgb HH.out.2.2.2.1 (k := (S + 5)) (by have := HL.out; omega)
      rw [← Nat.add_assoc] at c5
      have l5 := HH.out.2.1 (S + 5)
      have d5 := hew.dec (byteAt cs (S + 5)) l5
      have b5 : dmap (byteAt cs (S + 5)) < 256 := by rcases dmap_or _ l5 with h | h <;> omega
      have c6 := src_cell hg hgb HH.out.2.2.2.1 (k := (S + 6)) (by have := HL.out; omega)
      rw [← Nat.add_assoc] at c6
      have l6 := HH.out.2.1 (S + 6)
      have d6 := hew.dec (byteAt cs (S + 6)) l6
      have b6 : dmap (byteAt cs (S + 6)) < 256 := by rcases dmap_or _ l6 with h | h <;> omega
      have c7 := src_cell hg hgb HH.out.2.2.2.1 (k := (S + 7)) (by have := HL.out; omega)
      rw [← Nat.add_assoc] at c7
      have l7 := HH.out.2.1 (S + 7)
      have d7 := hew.dec (byteAt cs (S + 7)) l7
      have b7 : dmap (byteAt cs (S + 7)) < 256 := by rcases dmap_or _ l7 with h | h <;> omega
      by_cases hA : S + 8 ≤ Z
      · have t1 : (8 : Int) ≤ (L : Int) - (S : Int) := by have := HL.out; omega
        have t2 : (8 : Int) ≤ (ld : Int) - (N : Int) := by have := HL.out; omega
        have t3 : S + 8 ≤ L := by omega
        have t4 : N + 8 ≤ ld := by omega
        have t5 : ¬ (ld = N) := by omega
        have t6 : ¬ (c = S) := by omega
        have g0 := HH.out.2.2.2.2.1 S (by omega)
        have g1 := HH.out.2.2.2.2.1 (S + 1) (by omega)
        have g2 := HH.out.2.2.2.2.1 (S + 2) (by omega)
        have g3 := HH.out.2.2.2.2.1 (S + 3) (by omega)
        have g4 := HH.out.2.2.2.2.1 (S + 4) (by omega)
        have g5 := HH.out.2.2.2.2.1 (S + 5) (by omega)
        have g6 := HH.out.2.2.2.2.1 (S + 6) (by omega)
        have g7 := HH.out.2.2.2.2.1 (S + 7) (by omega)
        obtain ⟨x0, hx0⟩ : ∃ x, x = byteAt cs S := ⟨_, rfl⟩
        rw [← hx0] at c0 l0 d0 b0 g0
        obtain ⟨v0, hv0⟩ : ∃ v, v = dmap x0 := ⟨_, rfl⟩
        rw [← hv0] at d0 b0 g0
        have i0 : (x0 : Int) < 256 := by omega
        have E0 := hid (hv0.trans (congrArg dmap hx0))
        clear hx0 hv0
        obtain ⟨x1, hx1⟩ : ∃ x, x = byteAt cs (S + 1) := ⟨_, rfl⟩
        rw [← hx1] at c1 l1 d1 b1 g1
        obtain ⟨v1, hv1⟩ : ∃ v, v = dmap x1 := ⟨_, rfl⟩
        rw [← hv1] at d1 b1 g1
        have i1 : (x1 : Int) < 256 := by omega
        have E1 := hid (hv1.trans (congrArg dmap hx1))
        clear hx1 hv1
        obtain ⟨x2, hx2⟩ : ∃ x, x = byteAt cs (S + 2) := ⟨_, rfl⟩
        rw [← hx2] at c2 l2 d2 b2 g2
        obtain ⟨v2, hv2⟩ : ∃ v, v = dmap x2 := ⟨_, rfl⟩
        rw [← hv2] at d2 b2 g2
        have i2 : (x2 : Int) < 256 := by omega
        have E2 := hid (hv2.trans (congrArg dmap hx2))
        clear hx2 hv2
        obtain ⟨x3, hx3⟩ : ∃ x, x = byteAt cs (S + 3) := ⟨_, rfl⟩
        rw [← hx3] at c3 l3 d3 b3 g3
        obtain ⟨v3, hv3⟩ : ∃ v, v = dmap x3 := ⟨_, rfl⟩
        rw [← hv3] at d3 b3 g3
        have i3 : (x3 : Int) < 256 := by omega
        have E3 := hid (hv3.trans (congrArg dmap hx3))
        clear hx3 hv3
        obtain ⟨x4, hx4⟩ : ∃ x, x = byteAt cs (S + 4) := ⟨_, rfl⟩
        rw [← hx4] at c4 l4 d4 b4 g4
        obtain ⟨v4, hv4⟩ : ∃ v, v = dmap x4 := ⟨_, rfl⟩
        rw [← hv4] at d4 b4 g4
        have i4 : (x4 : Int) < 256 := by omega
        have E4 := hid (hv4.trans (congrArg dmap hx4))
        clear hx4 hv4
        obtain ⟨x5, hx5⟩ : ∃ x, x = byteAt cs (S + 5) := ⟨_, rfl⟩
        rw [← hx5] at c5 l5 d5 b5 g5
        obtain ⟨v5, hv5⟩ : ∃ v, v = dmap x5 := ⟨_, rfl⟩
        rw [← hv5] at d5 b5 g5
        have i5 : (x5 : Int) < 256 := by omega
        have E5 := hid (hv5.trans (congrArg dmap hx5))
        clear hx5 hv5
        obtain ⟨x6, hx6⟩ : ∃ x, x = byteAt cs (S + 6) := ⟨_, rfl⟩
        rw [← hx6] at c6 l6 d6 b6 g6
        obtain ⟨v6, hv6⟩ : ∃ v, v = dmap x6 := ⟨_, rfl⟩
        rw [← hv6] at d6 b6 g6
        have i6 : (x6 : Int) < 256 := by omega
        have E6 := hid (hv6.trans (congrArg dmap hx6))
        clear hx6 hv6
        obtain ⟨x7, hx7⟩ : ∃ x, x = byteAt cs (S + 7) := ⟨_, rfl⟩
        rw [← hx7] at c7 l7 d7 b7 g7
        obtain ⟨v7, hv7⟩ : ∃ v, v = dmap x7 := ⟨_, rfl⟩
        rw [← hv7] at d7 b7 g7
        have i7 : (x7 : Int) < 256 := by omega
        have E7 := hid (hv7.trans (congrArg dmap hx7))
        clear hx7 hv7
        have HSN := hid (And.intro hS hN)
        have HW := hid (And.intro hrow (And.intro hsz (And.intro hin hg)))
        clear hS hN hrow hsz hin hg hew
        go_upto_region 7 with fail
        go_cut [9, 10, 11] (fun _ u1 u2 wx => u1 = .int .u64 (num64 v0 v1 v2 v3 v4 v5 v6 v7 : Nat) ∧ u2 = .bool true ∧ ∃ k, wx = wr.drewN k)
        case first => as_aux_lemma =>
          go_quiet ((go_at_call 45; exact Calls.quiet_of_same ((assemble64_good v0 v1 v2 v3 v4 v5 v6 v7 _ g0 g1 g2 g3 g4 g5 g6 g7).mono fun _ _ ⟨he, hw⟩ => ⟨he, hw.symm⟩)))
          go_wp2_with fail
          go_meet
          exact ⟨rfl, rfl, _, rfl⟩
        case rest => as_aux_lemma =>
          obtain ⟨rfl, rfl, k, rfl⟩ := hcut
          obtain ⟨V, hV⟩ : ∃ V, V = num64 v0 v1 v2 v3 v4 v5 v6 v7 := ⟨_, rfl⟩
          have hV2 : V < 18446744073709551616 := by rw [hV]; unfold num64; omega
          rw [← hV]
          have HV := hid hV
          clear hV
          clear c0 d0 i0 l0
          clear c1 d1 i1 l1
          clear c2 d2 i2 l2
          clear c3 d3 i3 l3
          clear c4 d4 i4 l4
          clear c5 d5 i5 l5
          clear c6 d6 i6 l6
          clear c7 d7 i7 l7
          go_wp2_with fail
          refine (putBE64_any gd N _ _ V csd 5 (wr.drewN k) (by omega) hV2 HW.out.1 (by have := HW.out.2.1; omega)).mono ?_
          intro e w2 hput
          have hput2 := hput.1
          subst hput2
          have HP := hid hput
          clear hput
          go_wp2_with fail
          go_roundw
          case rel => exact ⟨q + 2, by omega, by have := HSN.out; omega, congrArg _ (by have := HSN.out; omega), rfl, congrArg _ (by have := HSN.out; omega), hid (drel_fast64 HSN.out.1 HSN.out.2 HW.out HP.out HV.out E0.out E1.out E2.out E3.out E4.out E5.out E6.out E7.out g0 g1 g2 g3 g4 g5 g6 g7)⟩
          case measure => simp only [intOf]; omega
      · have t1 : (8 : Int) ≤ (L : Int) - (S : Int) := by have := HL.out; omega
        have t2 : (8 : Int) ≤ (ld : Int) - (N : Int) := by have := HL.out; omega
        have t3 : S + 8 ≤ L := by omega
        have t4 : N + 8 ≤ ld := by omega
        have t5 : ¬ (ld = N) := by omega
        have t6 : ¬ (c = S) := by omega
        obtain ⟨x0, hx0⟩ : ∃ x, x = byteAt cs S := ⟨_, rfl⟩
        rw [← hx0] at c0 l0 d0 b0
        obtain ⟨v0, hv0⟩ : ∃ v, v = dmap x0 := ⟨_, rfl⟩
        rw [← hv0] at d0 b0
        have i0 : (x0 : Int) < 256 := by omega
        have E0 := hid (hv0.trans (congrArg dmap hx0))
        clear hx0 hv0
        obtain ⟨x1, hx1⟩ : ∃ x, x = byteAt cs (S + 1) := ⟨_, rfl⟩
        rw [← hx1] at c1 l1 d1 b1
        obtain ⟨v1, hv1⟩ : ∃ v, v = dmap x1 := ⟨_, rfl⟩
        rw [← hv1] at d1 b1
        have i1 : (x1 : Int) < 256 := by omega
        have E1 := hid (hv1.trans (congrArg dmap hx1))
        clear hx1 hv1
        obtain ⟨x2, hx2⟩ : ∃ x, x = byteAt cs (S + 2) := ⟨_, rfl⟩
        rw [← hx2] at c2 l2 d2 b2
        obtain ⟨v2, hv2⟩ : ∃ v, v = dmap x2 := ⟨_, rfl⟩
        rw [← hv2] at d2 b2
        have i2 : (x2 : Int) < 256 := by omega
        have E2 := hid (hv2.trans (congrArg dmap hx2))
        clear hx2 hv2
        obtain ⟨x3, hx3⟩ : ∃ x, x = byteAt cs (S + 3) := ⟨_, rfl⟩
        rw [← hx3] at c3 l3 d3 b3
        obtain ⟨v3, hv3⟩ : ∃ v, v = dmap x3 := ⟨_, rfl⟩
        rw [← hv3] at d3 b3
        have i3 : (x3 : Int) < 256 := by omega
        have E3 := hid (hv3.trans (congrArg dmap hx3))
        clear hx3 hv3
        obtain ⟨x4, hx4⟩ : ∃ x, x = byteAt cs (S + 4) := ⟨_, rfl⟩
        rw [← hx4] at c4 l4 d4 b4
        obtain ⟨v4, hv4⟩ : ∃ v, v = dmap x4 := ⟨_, rfl⟩
        rw [← hv4] at d4 b4
        have i4 : (x4 : Int) < 256 := by omega
        have E4 := hid (hv4.trans (congrArg dmap hx4))
        clear hx4 hv4
        obtain ⟨x5, hx5⟩ : ∃ x, x = byteAt cs (S + 5) := ⟨_, rfl⟩
        rw [← hx5] at c5 l5 d5 b5
        obtain ⟨v5, hv5⟩ : ∃ v, v = dmap x5 := ⟨_, rfl⟩
        rw [← hv5] at d5 b5
        have i5 : (x5 : Int) < 256 := by omega
        have E5 := hid (hv5.trans (congrArg dmap hx5))
        clear hx5 hv5
        obtain ⟨x6, hx6⟩ : ∃ x, x = byteAt cs (S + 6) := ⟨_, rfl⟩
        rw [← hx6] at c6 l6 d6 b6
        obtain ⟨v6, hv6⟩ : ∃ v, v = dmap x6 := ⟨_, rfl⟩
        rw [← hv6] at d6 b6
        have i6 : (x6 : Int) < 256 := by omega
        have E6 := hid (hv6.trans (congrArg dmap hx6))
        clear hx6 hv6
        obtain ⟨x7, hx7⟩ : ∃ x, x = byteAt cs (S + 7) := ⟨_, rfl⟩
        rw [← hx7] at c7 l7 d7 b7
        obtain ⟨v7, hv7⟩ : ∃ v, v = dmap x7 := ⟨_, rfl⟩
        rw [← hv7] at d7 b7
        have i7 : (x7 : Int) < 256 := by omega
        have E7 := hid (hv7.trans (congrArg dmap hx7))
        clear hx7 hv7
        have HSN := hid (And.intro hS hN)
        have HW := hid (And.intro hrow (And.intro hsz (And.intro hin hg)))
        have hz : Hid (v0 = 255 ∨ v1 = 255 ∨ v2 = 255 ∨ v3 = 255 ∨ v4 = 255 ∨ v5 = 255 ∨ v6 = 255 ∨ v7 = 255) := by
          have key : ∀ i v, Z = S + i → v = dmap (byteAt cs (S + i)) → v = 255 := fun i v h e => by rw [e, ← h]; exact HH.out.2.2.2.2.2.1
          rcases (show Z = S + 0 ∨ Z = S + 1 ∨ Z = S + 2 ∨ Z = S + 3 ∨ Z = S + 4 ∨ Z = S + 5 ∨ Z = S + 6 ∨ Z = S + 7 by omega) with h | h | h | h | h | h | h | h
          · exact .inl (key 0 _ h E0.out)
          · exact .inr (.inl (key 1 _ h E1.out))
          · exact .inr (.inr (.inl (key 2 _ h E2.out)))
          · exact .inr (.inr (.inr (.inl (key 3 _ h E3.out))))
          · exact .inr (.inr (.inr (.inr (.inl (key 4 _ h E4.out)))))
          · exact .inr (.inr (.inr (.inr (.inr (.inl (key 5 _ h E5.out))))))
          · exact .inr (.inr (.inr (.inr (.inr (.inr (.inl (key 6 _ h E6.out)))))))
          · exact .inr (.inr (.inr (.inr (.inr (.inr (.inr (key 7 _ h E7.out)))))))
        clear hS hN hrow hsz hin hg hew
        go_upto_region 7 with fail
        go_cut [9, 10, 11] (fun _ u1 u2 wx => u1 = .int .u64 0 ∧ u2 = .bool false ∧ ∃ k, wx = wr.drewN k)
        case first => as_aux_lemma =>
          go_quiet ((go_at_call 45; exact Calls.quiet_of_same ((assemble64_bad v0 v1 v2 v3 v4 v5 v6 v7 _ b0 b1 b2 b3 b4 b5 b6 b7 (or8_255 b0 b1 b2 b3 b4 b5 b6 b7 hz.out)).mono fun _ _ ⟨he, hw⟩ => ⟨he, hw.symm⟩)))
          go_wp2_with fail
          go_meet
          exact ⟨rfl, rfl, _, rfl⟩
        case rest => as_aux_lemma =>
          obtain ⟨rfl, rfl, k, rfl⟩ := hcut
          clear c0 d0 i0 l0
          clear c1 d1 i1 l1
          clear c2 d2 i2 l2
          clear c3 d3 i3 l3
          clear c4 d4 i4 l4
          clear c5 d5 i5 l5
          clear c6 d6 i6 l6
          clear c7 d7 i7 l7
          by_cases hB : S + 4 ≤ Z
          · go_wp2_with fail
            refine (quantum_4 ge b o L c S gd N _ _ cs csd (wr.drewN k) (by omega) hLb HH.out.2.1 (HH.out.2.2.1.grown (grown_trans HW.out.2.2.2 (grown_drewN wr _ k)) hge2) (fun j hj => src_cell (grown_trans HW.out.2.2.2 (grown_drewN wr _ k)) hgb HH.out.2.2.2.1 hj) (fun j hj => HH.out.2.2.2.2.1 (S + j) (by omega)) HW.out.1 (by omega) (by have := HW.out.2.1; omega) hge).mono ?_
            intro e w2 hput
            have hput2 := hput.1
            subst hput2
            have HP := hid hput
            clear hput
            go_wp2_with fail
            go_roundw
            case rel => exact ⟨q + 1, by omega, by have := HSN.out; omega, congrArg _ (by have := HSN.out; omega), rfl, congrArg _ (by have := HSN.out; omega), hid (drel_slow HSN.out.1 HSN.out.2 HW.out HP.out (by decide))⟩
            case measure => simp only [intOf]; omega
          · have hE := dec_bad (n := 3) HH.out.2.2.2.2.2.2 (by decide) h8 (by have := HSN.out; omega)
            obtain ⟨t, ht⟩ : ∃ t, Z = S + t := ⟨Z - S, by have := HSN.out; omega⟩
            have ht4 : t < 4 := by omega
            have HE := hid hE
            have HT := hid ht
            clear hE ht
            go_wp2_with fail
            refine (quantum_bad ge b o L c S t _ cs (wr.drewN k) ht4 (by have := HT.out; omega) hLb HH.out.1 HH.out.2.1 (HH.out.2.2.1.grown (grown_trans HW.out.2.2.2 (grown_drewN wr _ k)) hge2) (fun j hj => src_cell (grown_trans HW.out.2.2.2 (grown_drewN wr _ k)) hgb HH.out.2.2.2.1 hj) (fun j hj => HH.out.2.2.2.2.1 (S + j) (by have := HT.out; omega)) (by rw [← HT.out]; exact HH.out.2.2.2.2.2.1) (by rw [← HT.out]; exact HE.out.1) (by rw [← HT.out]; exact HE.out.2.1) (by rw [← HT.out]; exact HE.out.2.2.1)).mono ?_
            rintro e w2 ⟨rfl, hg2⟩
            have HG2 := hid hg2
            clear hg2
            go_wp2_with fail
            go_ret2
            exact dec_end_bad HSN.out.1 HSN.out.2 HW.out HG2.out HE.out.2.2.2.1 HE.out.2.2.2.2 HT.out ht4
    · have t2 : ¬ ((8 : Int) ≤ (ld : Int) - ((3 * q : Nat) : Int)) := by have := HL.out; omega
      go_upto_region 5 with fail
      go_cut [38] (fun v wx => v = .bool false ∧ ∃ k, wx = wr.drewN k)
      case first => as_aux_lemma =>
        by_cases h2 : q + 2 ≤ Q
        · have t1 : (8 : Int) ≤ (L : Int) - ((4 * q : Nat) : Int) := by have := HL.out; omega
          go_wp2_with fail
          go_meet
          first | exact ⟨rfl, 0, rfl⟩ | exact ⟨congrArg Value.bool (decide_eq_false (by omega)), 0, rfl⟩
        · have t1 : ¬ ((8 : Int) ≤ (L : Int) - ((4 * q : Nat) : Int)) := by have := HL.out; omega
          go_wp2_with fail
          go_meet
          first | exact ⟨rfl, 0, rfl⟩ | exact ⟨congrArg Value.bool (decide_eq_false (by omega)), 0, rfl⟩
      case rest => as_aux_lemma =>
        obtain ⟨rfl, k, rfl⟩ := hcut
        have HQ : Hid (DRel gd ld (3 * q) cs w (wr.drewN k)) := hq.out.drew k
        clear hq
        obtain ⟨q0, hq0⟩ : ∃ q0, q0 = q := ⟨_, rfl⟩
        subst hq0
        generalize wr.drewN k = wo at HQ ⊢
        clear t2 h8
        go_wp2_with fail
        go_loopw [6, 7, 8] (fun s6 s7 s8 wr => ∃ q : Nat, q < Q ∧ 4 * q ≤ Z ∧ s6 = .int .i64 ((3 * q : Nat) : Int) ∧ s7 = .nilIface ∧ s8 = .int .i64 ((4 * q : Nat) : Int) ∧ Hid (DRel gd ld (3 * q) cs w wr)) (fun _ _ s8 _ => L - (intOf s8).toNat)
        case atStart => exact ⟨_, hqQ, hqZ, rfl, rfl, rfl, HQ⟩
        case round =>
          obtain ⟨q, hqQ, hqZ, rfl, rfl, rfl, hq⟩ := hrel
          by_cases h8 : q + 2 ≤ Q
          · obtain ⟨S, hS⟩ : ∃ S, S = 4 * q := ⟨_, rfl⟩
            obtain ⟨N, hN⟩ : ∃ N, N = 3 * q := ⟨_, rfl⟩
            rw [← hS, ← hN]
            obtain ⟨csd, hrow, hsz, hin, hg⟩ := hq.out
            have hew := HH.out.2.2.1.grown hg hge2
            have c0 := src_cell hg hgb HH.out.2.2.2.1 (k := S) (by have := HL.out; omega)
            have l0 := HH.out.2.1 S
            have d0 := hew.dec (byteAt cs S) l0
            have b0 : dmap (byteAt cs S) < 256 := by rcases dmap_or _ l0 with h | h <;> omega
            have c1 := src_cell hg hgb HH.out.2.2.2.1 (k := (S + 1)) (by have := HL.out; omega)
            rw [← Nat.add_assoc] at c1
            have l1 := HH.out.2.1 (S + 1)
            have d1 := hew.dec (byteAt cs (S + 1)) l1
            have b1 : dmap (byteAt cs (S + 1)) < 256 := by rcases dmap_or _ l1 with h | h <;> omega
            have c2 := src_cell hg hgb HH.out.2.2.2.1 (k := (S + 2)) (by have := HL.out; omega)
            rw [← Nat.add_assoc] at c2
            have l2 := HH.out.2.1 (S + 2)
            have d2 := hew.dec (byteAt cs (S + 2)) l2
            have b2 : dmap (byteAt cs (S + 2)) < 256 := by rcases dmap_or _ l2 with h | h <;> omega
            have c3 := src_cell hg hgb HH.out.2.2.2.1 (k := (S + 3)) (by have := HL.out; omega)
            rw [← Nat.add_assoc] at c3
            have l3 := HH.out.2.1 (S + 3)
            have d3 := hew.dec (byteAt cs (S + 3)) l3
            have b3 : dmap (byteAt cs (S + 3)) < 256 := by rcases dmap_or _ l3 with h | h <;> omega
            by_cases hA : S + 4 ≤ Z
            · have t1 : (4 : Int) ≤ (L : Int) - (S : Int) := by have := HL.out; omega
              have t2 : (4 : Int) ≤ (ld : Int) - (N : Int) := by have := HL.out; omega
              have t3 : S + 4 ≤ L := by omega
              have t4 : N + 4 ≤ ld := by omega
              have t5 : ¬ (ld = N) := by omega
              have t6 : ¬ (c = S) := by omega
              have g0 := HH.out.2.2.2.2.1 S (by omega)
              have g1 := HH.out.2.2.2.2.1 (S + 1) (by omega)
              have g2 := HH.out.2.2.2.2.1 (S + 2) (by omega)
              have g3 := HH.out.2.2.2.2.1 (S + 3) (by omega)
              obtain ⟨x0, hx0⟩ : ∃ x, x = byteAt cs S := ⟨_, rfl⟩
              rw [← hx0] at c0 l0 d0 b0 g0
              obtain ⟨v0, hv0⟩ : ∃ v, v = dmap x0 := ⟨_, rfl⟩
              rw [← hv0] at d0 b0 g0
              have i0 : (x0 : Int) < 256 := by omega
              have E0 := hid (hv0.trans (congrArg dmap hx0))
              clear hx0 hv0
              obtain ⟨x1, hx1⟩ : ∃ x, x = byteAt cs (S + 1) := ⟨_, rfl⟩
              rw [← hx1] at c1 l1 d1 b1 g1
              obtain ⟨v1, hv1⟩ : ∃ v, v = dmap x1 := ⟨_, rfl⟩
              rw [← hv1] at d1 b1 g1
              have i1 : (x1 : Int) < 256 := by omega
              have E1 := hid (hv1.trans (congrArg dmap hx1))
              clear hx1 hv1
              obtain ⟨x2, hx2⟩ : ∃ x, x = byteAt cs (S + 2) := ⟨_, rfl⟩
              rw [← hx2] at c2 l2 d2 b2 g2
              obtain ⟨v2, hv2⟩ : ∃ v, v = dmap x2 := ⟨_, rfl⟩
              rw [← hv2] at d2 b2 g2
              have i2 : (x2 : Int) < 256 := by omega
              have E2 := hid (hv2.trans (congrArg dmap hx2))
              clear hx2 hv2
              obtain ⟨x3, hx3⟩ : ∃ x, x = byteAt cs (S + 3) := ⟨_, rfl⟩
              rw [← hx3] at c3 l3 d3 b3 g3
              obtain ⟨v3, hv3⟩ : ∃ v, v = dmap x3 := ⟨_, rfl⟩
              rw [← hv3] at d3 b3 g3
              have i3 : (x3 : Int) < 256 := by omega
              have E3 := hid (hv3.trans (congrArg dmap hx3))
              clear hx3 hv3
              have HSN := hid (And.intro hS hN)
              have HW := hid (And.intro hrow (And.intro hsz (And.intro hin hg)))
              clear hS hN hrow hsz hin hg hew
              go_upto_region 19 with fail
              go_cut [13, 14, 15] (fun _ u1 u2 wx => u1 = .int .u32 (num32 v0 v1 v2 v3 : Nat) ∧ u2 = .bool true ∧ ∃ k, wx = wr.drewN k)
              case first => as_aux_lemma =>
                go_quiet ((go_at_call 48; exact Calls.quiet_of_same ((assemble32_good v0 v1 v2 v3 _ g0 g1 g2 g3).mono fun _ _ ⟨he, hw⟩ => ⟨he, hw.symm⟩)))
                go_wp2_with fail
                go_meet
                exact ⟨rfl, rfl, _, rfl⟩
              case rest => as_aux_lemma =>
                obtain ⟨rfl, rfl, k, rfl⟩ := hcut
                obtain ⟨V, hV⟩ : ∃ V, V = num32 v0 v1 v2 v3 := ⟨_, rfl⟩
                have hV2 : V < 4294967296 := by rw [hV]; unfold num32; omega
                rw [← hV]
                have HV := hid hV
                clear hV
                clear c0 d0 i0 l0
                clear c1 d1 i1 l1
                clear c2 d2 i2 l2
                clear c3 d3 i3 l3
                go_wp2_with fail
                refine (putBE32_any gd N _ _ V csd 5 (wr.drewN k) (by omega) hV2 HW.out.1 (by have := HW.out.2.1; omega)).mono ?_
                intro e w2 hput
                have hput2 := hput.1
                subst hput2
                have HP := hid hput
                clear hput
                go_wp2_with fail
                go_roundw
                case rel => exact ⟨q + 1, by omega, by have := HSN.out; omega, congrArg _ (by have := HSN.out; omega), rfl, congrArg _ (by have := HSN.out; omega), hid (drel_fast32 HSN.out.1 HSN.out.2 HW.out HP.out HV.out E0.out E1.out E2.out E3.out g0 g1 g2 g3)⟩
                case measure => simp only [intOf]; omega
            · have t1 : (4 : Int) ≤ (L : Int) - (S : Int) := by have := HL.out; omega
              have t2 : (4 : Int) ≤ (ld : Int) - (N : Int) := by have := HL.out; omega
              have t3 : S + 4 ≤ L := by omega
              have t4 : N + 4 ≤ ld := by omega
              have t5 : ¬ (ld = N) := by omega
              have t6 : ¬ (c = S) := by omega
              obtain ⟨x0, hx0⟩ : ∃ x, x = byteAt cs S := ⟨_, rfl⟩
              rw [← hx0] at c0 l0 d0 b0
              obtain ⟨v0, hv0⟩ : ∃ v, v = dmap x0 := ⟨_, rfl⟩
              rw [← hv0] at d0 b0
              have i0 : (x0 : Int) < 256 := by omega
              have E0 := hid (hv0.trans (congrArg dmap hx0))
              clear hx0 hv0
              obtain ⟨x1, hx1⟩ : ∃ x, x = byteAt cs (S + 1) := ⟨_, rfl⟩
              rw [← hx1] at c1 l1 d1 b1
              obtain ⟨v1, hv1⟩ : ∃ v, v = dmap x1 := ⟨_, rfl⟩
              rw [← hv1] at d1 b1
              have i1 : (x1 : Int) < 256 := by omega
              have E1 := hid (hv1.trans (congrArg dmap hx1))
              clear hx1 hv1
              obtain ⟨x2, hx2⟩ : ∃ x, x = byteAt cs (S + 2) := ⟨_, rfl⟩
              rw [← hx2] at c2 l2 d2 b2
              obtain ⟨v2, hv2⟩ : ∃ v, v = dmap x2 := ⟨_, rfl⟩
              rw [← hv2] at d2 b2
              have i2 : (x2 : Int) < 256 := by omega
              have E2 := hid (hv2.trans (congrArg dmap hx2))
              clear hx2 hv2
              obtain ⟨x3, hx3⟩ : ∃ x, x = byteAt cs (S + 3) := ⟨_, rfl⟩
              rw [← hx3] at c3 l3 d3 b3
              obtain ⟨v3, hv3⟩ : ∃ v, v = dmap x3 := ⟨_, rfl⟩
              rw [← hv3] at d3 b3
              have i3 : (x3 : Int) < 256 := by omega
              have E3 := hid (hv3.trans (congrArg dmap hx3))
              clear hx3 hv3
              have HSN := hid (And.intro hS hN)
              have HW := hid (And.intro hrow (And.intro hsz (And.intro hin hg)))
              have hz : Hid (v0 = 255 ∨ v1 = 255 ∨ v2 = 255 ∨ v3 = 255) := by
                have key : ∀ i v, Z = S + i → v = dmap (byteAt cs (S + i)) → v = 255 := fun i v h e => by rw [e, ← h]; exact HH.out.2.2.2.2.2.1
                rcases (show Z = S + 0 ∨ Z = S + 1 ∨ Z = S + 2 ∨ Z = S + 3 by omega) with h | h | h | h
                · exact .inl (key 0 _ h E0.out)
                · exact .inr (.inl (key 1 _ h E1.out))
                · exact .inr (.inr (.inl (key 2 _ h E2.out)))
                · exact .inr (.inr (.inr (key 3 _ h E3.out)))
              clear hS hN hrow hsz hin hg hew
              go_upto_region 19 with fail
              go_cut [13, 14, 15] (fun _ u1 u2 wx => u1 = .int .u32 0 ∧ u2 = .bool false ∧ ∃ k, wx = wr.drewN k)
              case first => as_aux_lemma =>
                go_quiet ((go_at_call 48; exact Calls.quiet_of_same ((assemble32_bad v0 v1 v2 v3 _ b0 b1 b2 b3 hz.out).mono fun _ _ ⟨he, hw⟩ => ⟨he, hw.symm⟩)))
                go_wp2_with fail
                go_meet
                exact ⟨rfl, rfl, _, rfl⟩
              case rest => as_aux_lemma =>
                obtain ⟨rfl, rfl, k, rfl⟩ := hcut
                clear c0 d0 i0 l0
                clear c1 d1 i1 l1
                clear c2 d2 i2 l2
                clear c3 d3 i3 l3
                have hB : ¬ (S + 4 ≤ Z) := by omega
                have hE := dec_bad (n := 2) HH.out.2.2.2.2.2.2 (by decide) h8 (by have := HSN.out; omega)
                obtain ⟨t, ht⟩ : ∃ t, Z = S + t := ⟨Z - S, by have := HSN.out; omega⟩
                have ht4 : t < 4 := by omega
                have HE := hid hE
                have HT := hid ht
                clear hE ht
                go_wp2_with fail
                refine (quantum_bad ge b o L c S t _ cs (wr.drewN k) ht4 (by have := HT.out; omega) hLb HH.out.1 HH.out.2.1 (HH.out.2.2.1.grown (grown_trans HW.out.2.2.2 (grown_drewN wr _ k)) hge2) (fun j hj => src_cell (grown_trans HW.out.2.2.2 (grown_drewN wr _ k)) hgb HH.out.2.2.2.1 hj) (fun j hj => HH.out.2.2.2.2.1 (S + j) (by have := HT.out; omega)) (by rw [← HT.out]; exact HH.out.2.2.2.2.2.1) (by rw [← HT.out]; exact HE.out.1) (by rw [← HT.out]; exact HE.out.2.1) (by rw [← HT.out]; exact HE.out.2.2.1)).mono ?_
                rintro e w2 ⟨rfl, hg2⟩
                have HG2 := hid hg2
                clear hg2
                go_wp2_with fail
                go_ret2
                exact dec_end_bad HSN.out.1 HSN.out.2 HW.out HG2.out HE.out.2.2.2.1 HE.out.2.2.2.2 HT.out ht4
          · obtain ⟨S, hS⟩ : ∃ S, S = 4 * q := ⟨_, rfl⟩
            obtain ⟨N, hN⟩ : ∃ N, N = 3 * q := ⟨_, rfl⟩
            have t1 : (4 : Int) ≤ (L : Int) - (S : Int) := by have := HL.out; omega
            have t2 : ¬ ((4 : Int) ≤ (ld : Int) - (N : Int)) := by have := HL.out; omega
            have t3 : (S : Int) < (L : Int) := by have := HL.out; omega
            have t5 : ¬ (ld = N) := by have := HL.out; omega
            have t7 : S + 4 ≤ L := by have := HL.out; omega
            have t8 : L ≤ S + 4 := by have := HL.out; omega
            have t9 : N + 3 ≤ ld := by have := HL.out; omega
            rw [← hS, ← hN]
            have HW : Hid (DRel gd ld (3 * q) cs w wr) := hq
            obtain ⟨csd, hrow, hsz, hin, hg⟩ := hq.out
            have hew := HH.out.2.2.1.grown hg hge2
            have HC : Hid (IsEnc wr ge ∧ (∀ j, j < L → wr.cell? ⟨b, o + j, none⟩ = some (.int .u8 (byteAt cs j : Nat)))) := ⟨hew, fun j hj => src_cell hg hgb HH.out.2.2.2.1 hj⟩
            have HW := hid (And.intro hrow (And.intro hsz (And.intro hin hg)))
            have HSN := hid (And.intro hS hN)
            clear hrow hsz hin hg hew hq hS hN
            rcases HH.out.2.2.2.2.2.2 with ⟨t, ht, hZt, hpad, hm, rfl⟩ | hE
            · have HZ := hid (And.intro hZt (And.intro hpad hm))
              clear hZt hpad hm
              rcases ht with rfl | rfl
              · go_wp2_with fail
                refine wp_loop_rounds 2 ?_
                rw [rounds_succ]
                go_wp2_with fail
                refine (quantum_2 ge b o L c S gd N _ _ cs csd wr (by omega) (HZ.out.2.1 (S + 2) (by have := HZ.out.1; have := HSN.out; have := HL.out; omega) (by have := HL.out; omega)) (HZ.out.2.1 (S + 3) (by have := HZ.out.1; have := HSN.out; have := HL.out; omega) (by have := HL.out; omega)) hLb HH.out.2.1 HC.out.1 HC.out.2 (fun j hj => HH.out.2.2.2.2.1 (S + j) (by have := HZ.out.1; have := HSN.out; have := HL.out; omega)) HW.out.1 (by omega) (by have := HW.out.2.1; omega) hge).mono ?_
                intro e w2 hput
                have hput2 := hput.1
                subst hput2
                have HP := hid hput
                clear hput
                have u1 : ¬ ((S : Int) + 4 < (L : Int)) := by omega
                go_wp2_with fail
                rw [rounds_succ]
                go_wp2_with fail
                go_ret2
                have hmN : m = N + 1 := by have := HZ.out; have := HSN.out; have := HL.out; omega
                subst hmN
                exact ⟨rfl, (by rw [HSN.out.2]; exact drel_slow (k := 0) HSN.out.1 HSN.out.2 HW.out HP.out (by decide))⟩
              · go_wp2_with fail
                refine wp_loop_rounds 2 ?_
                rw [rounds_succ]
                go_wp2_with fail
                refine (quantum_3 ge b o L c S gd N _ _ cs csd wr (by omega) (HZ.out.2.1 (S + 3) (by have := HZ.out.1; have := HSN.out; have := HL.out; omega) (by have := HL.out; omega)) hLb HH.out.2.1 HC.out.1 HC.out.2 (fun j hj => HH.out.2.2.2.2.1 (S + j) (by have := HZ.out.1; have := HSN.out; have := HL.out; omega)) HW.out.1 (by omega) (by have := HW.out.2.1; omega) hge).mono ?_
                intro e w2 hput
                have hput2 := hput.1
                subst hput2
                have HP := hid hput
                clear hput
                have u1 : ¬ ((S : Int) + 4 < (L : Int)) := by omega
                go_wp2_with fail
                rw [rounds_succ]
                go_wp2_with fail
                go_ret2
                have hmN : m = N + 2 := by have := HZ.out; have := HSN.out; have := HL.out; omega
                subst hmN
                exact ⟨rfl, (by rw [HSN.out.2]; exact drel_slow (k := 0) HSN.out.1 HSN.out.2 HW.out HP.out (by decide))⟩
            · obtain ⟨t, ht⟩ : ∃ t, Z = S + t := ⟨Z - S, by have := HSN.out; omega⟩
              have ht4 : t < 4 := by omega
              have HE := hid hE
              have HT := hid ht
              clear hE ht
              go_wp2_with fail
              refine wp_loop_rounds 1 ?_
              rw [rounds_succ]
              go_wp2_with fail
              refine (quantum_bad ge b o L c S t _ cs wr ht4 (by have := HT.out; omega) hLb HH.out.1 HH.out.2.1 HC.out.1 HC.out.2 (fun j hj => HH.out.2.2.2.2.1 (S + j) (by have := HT.out; omega)) (by rw [← HT.out]; exact HH.out.2.2.2.2.2.1) (by rw [← HT.out]; exact HE.out.1) (by rw [← HT.out]; exact HE.out.2.1) (by rw [← HT.out]; exact HE.out.2.2.1)).mono ?_
              rintro e w2 ⟨rfl, hg2⟩
              have HG2 := hid hg2
              clear hg2
              go_wp2_with fail
              go_ret2
              exact dec_end_bad (k := 0) HSN.out.1 HSN.out.2 HW.out HG2.out HE.out.2.2.2.1 HE.out.2.2.2.2 HT.out ht4

#print axioms decode_any
end Go.Proofs.YtmglaaejobbbiaaDoor

