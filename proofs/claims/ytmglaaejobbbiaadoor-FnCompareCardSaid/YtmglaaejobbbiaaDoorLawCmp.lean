/-
  The walk of the law FnCompare: the text that was made of a password tells its cost, and the password is taken with it; the law returns true; nothing that was there turns. Whatever the open variables hold.
-/
import Derived.Test.YtmglaaejobbbiaaDoorCmpI
namespace Go.Proofs.YtmglaaejobbbiaaDoor
open Go.RowKit

set_option maxHeartbeats 400000 in
theorem fits_true (a b : Option Addr) (n c k d : Nat) (w : World) (hn : n ≤ 72) (hk : 4 ≤ k) (hk2 : k ≤ 6) :
    Calls Tryd.prog 4 #[.slice a n c, .int .i64 (k : Nat), .slice b 16 d] w fun e w' => e = .returned (.bool true) ∧ w = w' := by
  have d1 : decide ((n : Int) ≤ 72) = true := by simp; omega
  have d2 : decide (4 ≤ (k : Int)) = true := by simp; omega
  have d3 : decide ((k : Int) ≤ 6) = true := by simp; omega
  go_enter Tryd.func4, Tryd.ntmps4
  go_wp2_with fail
  go_ret
  exact ⟨rfl, rfl⟩

set_option maxHeartbeats 400000 in
theorem fits_false (a b : Option Addr) (n c m d : Nat) (x : Int) (w : World) (h : 72 < n ∨ x < 4 ∨ 6 < x ∨ m ≠ 16) :
    Calls Tryd.prog 4 #[.slice a n c, .int .i64 x, .slice b m d] w fun e w' => e = .returned (.bool false) ∧ w = w' := by
  by_cases h1 : n ≤ 72
  · have d1 : decide ((n : Int) ≤ 72) = true := by simp; omega
    by_cases h2 : 4 ≤ x
    · have d2 : decide (4 ≤ x) = true := by simp; omega
      by_cases h3 : x ≤ 6
      · have d3 : decide (x ≤ 6) = true := by simp; omega
        have d4 : ((m : Int) == 16) = false := by rw [beq_eq_false_iff_ne]; omega
        clear h
        go_enter Tryd.func4, Tryd.ntmps4
        go_wp2_with fail
        go_ret
        exact ⟨rfl, rfl⟩
      · have d3 : decide (x ≤ 6) = false := by simp; omega
        clear h
        go_enter Tryd.func4, Tryd.ntmps4
        go_wp2_with fail
        go_ret
        exact ⟨rfl, rfl⟩
    · have d2 : decide (4 ≤ x) = false := by simp; omega
      clear h
      go_enter Tryd.func4, Tryd.ntmps4
      go_wp2_with fail
      go_ret
      exact ⟨rfl, rfl⟩
  · have d1 : decide ((n : Int) ≤ 72) = false := by simp; omega
    clear h
    go_enter Tryd.func4, Tryd.ntmps4
    go_wp2_with fail
    go_ret
    exact ⟨rfl, rfl⟩

set_option maxHeartbeats 1000000 in
theorem lawCmp_some (a b : Option Addr) (n c k d : Nat) (xs ss : List Nat) (t M : Nat → Nat) (w : World) (hn : n ≤ 72) (hk : 4 ≤ k) (hk2 : k ≤ 6) (hsrc : Src w a n xs) (hsalt : Src w b 16 ss) (hg : Glob w t) (hgb : globTop ≤ w.heap.size) (hm : Mag w M) :
    Calls Tryd.prog 3 #[.slice a n c, .int .i64 (k : Nat), .slice b 16 d] w (LawPost w) := by
  have d1 : decide ((2147483647 : Int) < (n : Int)) = false := by simp; omega
  have H := hid (And.intro hsrc (And.intro hsalt (And.intro hg hm)))
  have hs1 : (signs ss).length = 22 := by rw [signs_length, hsalt.1]
  have hs2 : (signs (rawL t M xs ss k)).length = 31 := by simp [signs_length, rawL]
  have HH := hid (head_hash (k := k) (by omega) hs1 hs2 byte_sign byte_sign)
  have ek : 10 * (k / 10) + k % 10 = k := by omega
  have HE := hid ek
  clear hsrc hsalt hg hm hs1 hs2 ek
  go_enter Tryd.func3, Tryd.ntmps3
  go_wp2_with fail
  refine (fits_true a b n c k d w hn hk hk2).mono ?_
  rintro e w' ⟨rfl, rfl⟩
  go_wp2_with fail
  refine (implHash_any a b n c d k xs ss t M w hn hk (by omega) H.out.1 H.out.2.1 H.out.2.2.1 hgb H.out.2.2.2).mono ?_
  rintro e w1 ⟨v, rfl, hv, h1⟩
  obtain ⟨gv, cv, _, rfl, _, _, hcv, _, _, _, _⟩ := hv.form (by unfold fullL; rw [HH.out.1]; decide)
  have hfl : (fullL t M xs ss k).length = 60 := HH.out.1
  rw [hfl] at hv hcv ⊢
  have H1 := hid (And.intro (own_bts hv hfl HH.out.2.1) h1)
  have hsz := h1.size
  clear hv h1 hfl
  go_wp2_with fail
  refine (implCost_ok gv cv (k / 10) (k % 10) 50 (fullL t M xs ss k) w1 H1.out.1 HH.out (by decide) (by omega) (by omega)).mono ?_
  rw [HE.out]
  rintro e w2 ⟨rfl, h2⟩
  have H2 := hid (And.intro (H1.out.1.grown h2 (by simp)) (grown_trans H1.out.2 h2))
  have hsz2 := (grown_trans H1.out.2 h2).size
  clear h2
  go_wp2_with fail
  refine (implCompare_ok gv cv a n c k xs ss t M w2 H2.out.1 hn hk (by omega) (H.out.1.below (below_of_grown H2.out.2 (Nat.le_refl _) (by simp))) H.out.2.1.1 (src_bytes H.out.2.1) (H.out.2.2.1.grown H2.out.2 (by simp)) (Nat.le_trans hgb hsz2) (H.out.2.2.2.grown H2.out.2)).mono ?_
  rintro e w3 ⟨rfl, h3⟩
  have H3 := hid (grown_trans H2.out.2 h3)
  clear h3
  go_wp2_with fail
  go_ret
  exact ⟨rfl, below_of_grown H3.out (Nat.le_refl _) (by simp)⟩

set_option maxHeartbeats 1000000 in
theorem lawCmp_else (a b : Option Addr) (n c m d : Nat) (x : Int) (w : World) (h : 72 < n ∨ x < 4 ∨ 6 < x ∨ m ≠ 16) :
    Calls Tryd.prog 3 #[.slice a n c, .int .i64 x, .slice b m d] w (LawPost w) := by
  by_cases h1 : 2147483647 < n
  · have d1 : decide ((2147483647 : Int) < (n : Int)) = true := by simp; omega
    clear h
    go_enter Tryd.func3, Tryd.ntmps3
    go_wp2_with fail
    go_ret
    exact ⟨rfl, Below.refl _ _⟩
  · have d1 : decide ((2147483647 : Int) < (n : Int)) = false := by simp; omega
    by_cases h2 : 2147483647 < m
    · have d2 : decide ((2147483647 : Int) < (m : Int)) = true := by simp; omega
      clear h
      go_enter Tryd.func3, Tryd.ntmps3
      go_wp2_with fail
      go_ret
      exact ⟨rfl, Below.refl _ _⟩
    · have d2 : decide ((2147483647 : Int) < (m : Int)) = false := by simp; omega
      have HF := hid (fits_false a b n c m d x w h)
      clear h
      go_enter Tryd.func3, Tryd.ntmps3
      go_wp2_with fail
      refine HF.out.mono ?_
      rintro e w' ⟨rfl, rfl⟩
      go_wp2_with fail
      go_ret
      exact ⟨rfl, Below.refl _ _⟩

theorem lawCmp_any (a b : Option Addr) (n c m d : Nat) (x : Int) (zs us : List Int) (t M : Nat → Nat) (w : World) (h : IsRow .u8 w a n c zs) (k : IsRow .u8 w b m d us) (hg : Glob w t) (hgb : globTop ≤ w.heap.size) (hm : Mag w M) :
    Calls Tryd.prog 3 #[.slice a n c, .int .i64 x, .slice b m d] w (LawPost w) := by
  rcases (show (72 < n ∨ x < 4 ∨ 6 < x ∨ m ≠ 16) ∨ ¬ (72 < n ∨ x < 4 ∨ 6 < x ∨ m ≠ 16) from Classical.em _) with hb | hb
  · exact lawCmp_else a b n c m d x w hb
  · obtain ⟨xs, hs⟩ := h.src
    obtain ⟨ss, ht⟩ := k.src
    obtain rfl : m = 16 := by omega
    obtain ⟨j, rfl⟩ : ∃ j : Nat, x = (j : Int) := ⟨x.toNat, by omega⟩
    exact lawCmp_some a b n c j d xs ss t M w (by omega) (by omega) (by omega) hs ht hg hgb hm
#print axioms lawCmp_any
end Go.Proofs.YtmglaaejobbbiaaDoor
