/-
  The walk of the law FnHashLong: a password of more than 72 bytes is refused, an empty one is not; the law returns true; nothing that was there turns. Whatever the six open variables hold.
-/
import Derived.Test.YtiihokjofmfdkaaDoorGen
namespace Go.Proofs.YtiihokjofmfdkaaDoor
open Go.RowKit

set_option maxHeartbeats 1000000 in
theorem lawHL_some (a b : Option Addr) (n c k d : Nat) (xs ss : List Nat) (t M : Nat → Nat) (w : World) (hn : 72 < n) (hn2 : n ≤ 1024) (hk : 4 ≤ k) (hk2 : k ≤ 6) (hsrc : Src w a n xs) (hsalt : Src w b 16 ss) (hg : Glob w t) (hgb : globTop ≤ w.heap.size) (hm : Mag w M) :
    Calls Tryd.prog 3 #[.slice a n c, .int .i64 (k : Nat), .slice b 16 d] w (LawPost w) := by
  have d1 : decide ((2147483647 : Int) < (n : Int)) = false := by simp; omega
  have d3 : decide ((n : Int) ≤ 72) = false := by simp; omega
  have d4 : decide ((1024 : Int) < (n : Int)) = false := by simp; omega
  have d5 : decide ((k : Int) < 4) = false := by simp; omega
  have d6 : decide ((6 : Int) < (k : Int)) = false := by simp; omega
  have H := hid (And.intro hsrc (And.intro hsalt (And.intro hg hm)))
  clear hsrc hsalt hg hm
  go_enter Tryd.func3, Tryd.ntmps3
  go_wp2_with fail
  refine (implHash_long a b n c d k xs ss w hn hn2 (by omega) H.out.1 H.out.2.1).mono ?_
  rintro e w1 ⟨rfl, h1⟩
  have H1 := hid h1
  have hsz := h1.size
  clear h1
  go_wp2_with fail
  refine (implHash_any none b 0 0 d 4 [] ss t M w1 (by decide) (by decide) (by decide) ⟨rfl, .inl rfl⟩ (H.out.2.1.below (below_of_grown H1.out (Nat.le_refl _) (by simp))) (H.out.2.2.1.grown H1.out (by simp)) (Nat.le_trans hgb hsz) (H.out.2.2.2.grown H1.out)).mono ?_
  rintro e w2 ⟨v, rfl, _, h2⟩
  have H2 := hid (grown_trans H1.out h2)
  clear h2
  go_wp2_with fail
  go_ret
  exact ⟨rfl, below_of_grown H2.out (Nat.le_refl _) (by simp)⟩

set_option maxHeartbeats 1000000 in
theorem lawHL_else (a b : Option Addr) (n c m d : Nat) (x : Int) (w : World) (h : n ≤ 72 ∨ 1024 < n ∨ x < 4 ∨ 6 < x ∨ m ≠ 16) :
    Calls Tryd.prog 3 #[.slice a n c, .int .i64 x, .slice b m d] w (LawPost w) := by
  by_cases h1 : 2147483647 < n
  · have d1 : decide ((2147483647 : Int) < (n : Int)) = true := by simp; omega
    clear h
    go_enter Tryd.func3, Tryd.ntmps3
    go_wp2_with fail
    go_ret
    exact ⟨rfl, Below.refl _ _⟩
  · have d1 : decide ((2147483647 : Int) < (n : Int)) = false := by simp; omega
    by_cases h2 : 2147483647 < m
    · have d2 : decide ((2147483647 : Int) < (m : Int)) = true := by simp; omega
      clear h
      go_enter Tryd.func3, Tryd.ntmps3
      go_wp2_with fail
      go_ret
      exact ⟨rfl, Below.refl _ _⟩
    · have d2 : decide ((2147483647 : Int) < (m : Int)) = false := by simp; omega
      by_cases h3 : n ≤ 72
      · have d3 : decide ((n : Int) ≤ 72) = true := by simp; omega
        clear h
        go_enter Tryd.func3, Tryd.ntmps3
        go_wp2_with fail
        go_ret
        exact ⟨rfl, Below.refl _ _⟩
      · have d3 : decide ((n : Int) ≤ 72) = false := by simp; omega
        by_cases h4 : 1024 < n
        · have d4 : decide ((1024 : Int) < (n : Int)) = true := by simp; omega
          clear h
          go_enter Tryd.func3, Tryd.ntmps3
          go_wp2_with fail
          go_ret
          exact ⟨rfl, Below.refl _ _⟩
        · have d4 : decide ((1024 : Int) < (n : Int)) = false := by simp; omega
          by_cases h5 : x < 4
          · have d5 : decide (x < 4) = true := by simp; omega
            clear h
            go_enter Tryd.func3, Tryd.ntmps3
            go_wp2_with fail
            go_ret
            exact ⟨rfl, Below.refl _ _⟩
          · have d5 : decide (x < 4) = false := by simp; omega
            by_cases h6 : 6 < x
            · have d6 : decide (6 < x) = true := by simp; omega
              clear h
              go_enter Tryd.func3, Tryd.ntmps3
              go_wp2_with fail
              go_ret
              exact ⟨rfl, Below.refl _ _⟩
            · have d6 : decide (6 < x) = false := by simp; omega
              have d7 : ((m : Int) == 16) = false := by rw [beq_eq_false_iff_ne]; omega
              clear h
              go_enter Tryd.func3, Tryd.ntmps3
              go_wp2_with fail
              go_ret
              exact ⟨rfl, Below.refl _ _⟩

theorem lawHL_any (a b : Option Addr) (n c m d : Nat) (x : Int) (zs us : List Int) (t M : Nat → Nat) (w : World) (h : IsRow .u8 w a n c zs) (k : IsRow .u8 w b m d us) (hg : Glob w t) (hgb : globTop ≤ w.heap.size) (hm : Mag w M) :
    Calls Tryd.prog 3 #[.slice a n c, .int .i64 x, .slice b m d] w (LawPost w) := by
  rcases (show (n ≤ 72 ∨ 1024 < n ∨ x < 4 ∨ 6 < x ∨ m ≠ 16) ∨ ¬ (n ≤ 72 ∨ 1024 < n ∨ x < 4 ∨ 6 < x ∨ m ≠ 16) from Classical.em _) with hb | hb
  · exact lawHL_else a b n c m d x w hb
  · obtain ⟨xs, hs⟩ := h.src
    obtain ⟨ss, ht⟩ := k.src
    obtain rfl : m = 16 := by omega
    obtain ⟨j, rfl⟩ : ∃ j : Nat, x = (j : Int) := ⟨x.toNat, by omega⟩
    exact lawHL_some a b n c j d xs ss t M w (by omega) (by omega) (by omega) (by omega) hs ht hg hgb hm
#print axioms lawHL_any
end Go.Proofs.YtiihokjofmfdkaaDoor
