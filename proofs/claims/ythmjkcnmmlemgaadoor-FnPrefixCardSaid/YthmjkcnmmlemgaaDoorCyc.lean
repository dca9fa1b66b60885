/-
  spec.cycle: the numbers of bytes that are taken round and round, in new memory; nothing that was there turns.
-/
import Derived.Test.YthmjkcnmmlemgaaDoorKey
import Derived.WalkKit
import Derived.Deep.MidRow
namespace Go.Proofs.YthmjkcnmmlemgaaDoor
open Go.RowKit

def wvals (L : List Nat) : List Value := L.map fun x => Value.int .u32 (x : Nat)
/-- v is a slice of numbers of 32 bits of the call's own that holds L. -/
def OwnW (w : World) (base : Nat) (v : Value) (L : List Nat) : Prop := w.ownsRow base 25 1 v L.length (wvals L)
theorem infoWord : (Tryd.prog.info? 25).map (fun i => (i.zero, i.size, i.bytes)) = some (some (.int .u32 0), 1, 4) := by kernel_rfl
theorem OwnW.to {w : World} {base m : Nat} {v : Value} {L : List Nat} (h : OwnW w base v L) (hl : L.length = m) : w.ownsRow base 25 1 v m (wvals L) := by subst hl; exact h
theorem OwnW.snoc {w : World} {base m : Nat} {v : Value} {L : List Nat} {x : Nat} (h : w.ownsRow base 25 1 v (m + 1) (wvals L ++ [.int .u32 (x : Nat)])) (hl : L.length = m) : OwnW w base v (L ++ [x]) := by
  have e : (L ++ [x]).length = m + 1 := by simp [hl]
  unfold OwnW
  rw [e, show wvals (L ++ [x]) = wvals L ++ wvals [x] by simp [wvals]]
  exact h
theorem OwnW.form {w : World} {base : Nat} {v : Value} {L : List Nat} (h : OwnW w base v L) (hn : 0 < L.length) :
    ∃ g cap, v = .slice (some ⟨g, 0, none⟩) L.length cap ∧ base ≤ g ∧ g < w.heap.size ∧ ∀ j, j < L.length → w.cell? ⟨g, 0 + j, none⟩ = some (.int .u32 (L.getD j 0 : Nat)) := by
  have hc := h.cells (g := v.ownBlock.getD 0)
  obtain ⟨h1, ⟨_, h0⟩ | ⟨g, cap, cur, rfl, hb, hg, hnc, hcm, hcs, htake⟩⟩ := h
  · omega
  · refine ⟨g, cap, rfl, hb, row_lt hg, fun j hj => ?_⟩
    have e := hc (by simp [Value.ownBlock]) j (.int .u32 (L.getD j 0 : Nat)) (by simp [wvals, List.getElem?_eq_getElem hj])
    have hadd : (⟨g, 0, none⟩ : Addr).add j = ⟨g, 0 + j, none⟩ := Addr.add_mid g 0 j
    simp only [Value.ownBlock, Option.getD_some] at e
    rw [hadd] at e
    exact e
theorem w_new (w : World) (v : Value) (t : TypeId) : ∀ j u, [v][j]? = some u → (w.alloc (.cells #[v] t)).cell? ((⟨w.heap.size, 0, none⟩ : Addr).add j) = some u := by
  intro j u hu
  match j, hu with
  | 0, hu => simp at hu; subst hu; simp [Addr.add]
theorem w_one (k : IntKind) (x : Int) : ∀ u ∈ [Value.int k x], u.oneCell' = true := by
  intro u hu; simp at hu; subst hu; rfl
theorem wds_succ (ys : List Nat) (n m : Nat) : (List.range (m + 1)).map (wdW ys n) = (List.range m).map (wdW ys n) ++ [wdW ys n m] := by simp [List.range_succ]
theorem mod_next {n : Nat} (hn : 0 < n) (a : Nat) : (if a % n + 1 < n then a % n + 1 else 0) = (a + 1) % n := by
  have h := Nat.mod_lt a hn
  have d := Nat.div_add_mod a n
  have e : a + 1 = n * (a / n) + (a % n + 1) := by rw [← Nat.add_assoc, d]
  have e2 : (a + 1) % n = (a % n + 1) % n := by
    have := Nat.mul_add_mod n (a / n) (a % n + 1)
    rw [← e] at this
    exact this
  rw [e2]
  split
  · rename_i h1
    exact (Nat.mod_eq_of_lt h1).symm
  · have e3 : a % n + 1 = n := by omega
    rw [e3, Nat.mod_self]
/-- Where word m begins. -/
theorem posW_mod {ys : List Nat} {n : Nat} (hn : 0 < n) : ∀ m, posW ys n m = (4 * m) % n := by
  have one := mod_next hn
  have it : ∀ a x k, (itW ys n (x, a % n) k).2 = (a + k) % n := by
    intro a x k
    induction k with
    | zero => rfl
    | succ k ih => simp only [itW, stepW, ih, one]; rfl
  intro m
  induction m with
  | zero => simp [posW]
  | succ m ih => rw [posW, ih, it]; congr 1
def CycPost (L : List Nat) (w : World) (e : Ending) (w' : World) : Prop := ∃ v, e = .returned v ∧ OwnW w' w.heap.size v L ∧ Below w.heap.size w w'

set_option maxHeartbeats 4000000 in
set_option maxRecDepth 100000 in
theorem cycle_any (gk ok n c N : Nat) (ys : List Nat) (w : World) (hk : Key w gk ok n ys) (hN : N ≤ 4096) :
    Calls Tryd.prog 26 #[.slice (some ⟨gk, ok, none⟩) n c, .int .i64 (N : Nat)] w (CycPost ((List.range N).map (wdW ys n)) w) := by
  obtain ⟨i0, hi, hz0, hz1, hz2⟩ := info_parts infoWord
  have hn := hk.1
  have hn2 := hk.2.1
  have hgk : gk < w.heap.size := block_lt_of_cell (hk.2.2.2 0 hn)
  have HK := hid hk
  clear hk
  go_enter Tryd.func26, Tryd.ntmps26
  go_wp2_with fail
  go_loopw [1, 5, 6] (fun nn v at_ wr => ∃ m : Nat, m ≤ N ∧ nn = .int .i64 ((N - m : Nat) : Int) ∧ at_ = .int .i64 ((4 * m : Nat) : Int) ∧ Hid (OwnW wr w.heap.size v ((List.range m).map (wdW ys n)) ∧ Below w.heap.size w wr)) (fun nn _ _ _ => (intOf nn).toNat)
  case atStart => exact ⟨0, Nat.zero_le _, rfl, rfl, World.ownsRow_made w #[] 0 (Nat.le_refl _) (by decide) rfl, (Below.refl _ _).alloc (Nat.le_refl _) _⟩
  case round =>
    obtain ⟨m, hm, rfl, rfl, hE⟩ := hrel
    obtain ⟨q, hq⟩ : ∃ q, q = N - m := ⟨_, rfl⟩
    obtain ⟨a0, ha0⟩ : ∃ a0, a0 = 4 * m := ⟨_, rfl⟩
    have ha1 : a0 ≤ 16384 := by omega
    rw [← hq, ← ha0]
    by_cases hlt : m < N
    · have hq0 : (0 : Int) < (q : Int) := by omega
      have HQ := hid (And.intro hq ha0)
      have hkr := hid (fun i hi => ((hE.out.2.cell (p := ⟨gk, ok + i, none⟩) hgk).trans (HK.out.2.2.2 i hi) : wr.cell? ⟨gk, ok + i, none⟩ = some (.int .u8 (byteAt ys i : Nat))))
      clear hq ha0
      go_wp2_with fail
      go_loop [6, 7, 8] (fun at_ x kk => ∃ k X : Nat, k ≤ 4 ∧ X < 4294967296 ∧ at_ = .int .i64 ((a0 + k : Nat) : Int) ∧ x = .int .u32 (X : Nat) ∧ kk = .int .i64 (k : Nat) ∧ Hid (itW ys n (0, posW ys n m) k = (X, (a0 + k) % n))) (fun _ _ kk => 4 - (intOf kk).toNat)
      case atStart => exact ⟨0, 0, by decide, by decide, rfl, rfl, rfl, hid (by rw [posW_mod hn, HQ.out.2]; rfl)⟩
      case round =>
        obtain ⟨k, X, hk, hX, rfl, rfl, rfl, hIt⟩ := hrel
        by_cases hk4 : k < 4
        · obtain ⟨a, ha⟩ : ∃ a, a = a0 + k := ⟨_, rfl⟩
          have ha2 : a ≤ 20000 := by omega
          rw [← ha] at hIt ⊢
          have HA := hid ha
          clear ha
          obtain ⟨p, hp⟩ : ∃ p, p = a % n := ⟨_, rfl⟩
          have hpn : p < n := by rw [hp]; exact Nat.mod_lt _ hn
          have z1 : (a : Int) % (n : Int) = (p : Int) := by rw [hp]; simp
          have z2 : (a : Int).tmod (n : Int) = (p : Int) := by rw [Int.tmod_eq_emod_of_nonneg (by omega)]; exact z1
          have z3 : ((n : Int) == 0) = false := by rw [beq_eq_false_iff_ne]; omega
          have z4 : (p : Int) < (n : Int) := by omega
          have cj := hkr.out p hpn
          have bj := HK.out.2.2.1 p
          obtain ⟨y, hy⟩ : ∃ y, y = byteAt ys p := ⟨_, rfl⟩
          rw [← hy] at cj bj
          obtain ⟨e1, e2⟩ := or_word X y hX bj
          obtain ⟨Y, hY⟩ : ∃ Y, Y = (X * 256 % 4294967296) ||| y := ⟨_, rfl⟩
          rw [← hY] at e1 e2
          have HI : Hid (itW ys n (0, posW ys n m) (k + 1) = (Y, (a + 1) % n)) := hid (by simp only [itW, hIt.out, stepW]; rw [mod_next hn, ← hp, ← hy, ← hY])
          clear hy hY hp hIt
          go_wp2_with fail
          go_round
          case rel => exact ⟨k + 1, Y, by omega, e2, congrArg _ (by have := HA.out; omega), rfl, by go_num, by have h := HA.out; rw [show a0 + (k + 1) = a + 1 by omega]; exact HI⟩
          case measure => simp only [intOf]; omega
        · have HX : Hid (X = wdW ys n m) := hid (by
            have e : k = 4 := by omega
            subst e
            rw [wdW, hIt.out])
          have hk5 : ¬ ((k : Int) < 4) := by omega
          clear hIt
          have HO := hid hE.out.1
          go_wp2_with ((with_reducible refine atOp (o := ⟨some 34, _, _, _, _, _⟩) ?_); refine wpList_append_own _ rfl (.tmp 31) (.tmp 33) 69 rfl w.heap.size 25 i0 (.int .u32 0) 1 4 Tryd.underlying69 hi hz0 hz1 hz2 rfl (by decide) u5 m (wvals ((List.range m).map (wdW ys n))) rfl (World.ownsRow.alloc (OwnW.to HO.out (by simp)) _) ⟨wr.heap.size, 0, none⟩ 1 1 [.int .u32 (X : Nat)] rfl rfl (w_new wr _ _) (w_one _ _) (by unfold maxLen; omega) (by omega) (by have := hE.out.2.size; simp; omega) ?_; intro v' w1 hown hgr _; have H2 := hid (And.intro hown hgr); clear hown hgr)
          go_roundw
          case rel =>
            refine ⟨m + 1, by omega, congrArg _ (by have := HQ.out; simp only [wrap64]; omega), congrArg _ (by have := HQ.out; omega), hid ⟨?_, ?_⟩⟩
            · rw [wds_succ, ← HX.out]
              exact OwnW.snoc H2.out.1 (by simp)
            · refine (hE.out.2.alloc hE.out.2.size _).grown H2.out.2 (by have := hE.out.2.size; simp; omega) (fun k hk => ?_)
              exact (World.ownsRow.lt HO.out k hk.symm.symm).1
          case measure => simp only [intOf, wrap64]; omega
    · obtain rfl : m = N := by omega
      have hq0 : ¬ (0 : Int) < (q : Int) := by omega
      go_wp2_with fail
      go_ret
      exact ⟨_, rfl, hE.out.1, hE.out.2⟩
#print axioms cycle_any
end Go.Proofs.YthmjkcnmmlemgaaDoor
