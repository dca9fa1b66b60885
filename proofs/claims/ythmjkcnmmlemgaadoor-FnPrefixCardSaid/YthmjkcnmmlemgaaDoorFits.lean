/-
  laws.fits: whether a password has at most 72 bytes, a cost is 4 to 6, and a salt has 16 bytes; it only computes.
-/
import Derived.Test.YthmjkcnmmlemgaaDoorRow
namespace Go.Proofs.YthmjkcnmmlemgaaDoor
open Go.RowKit

set_option maxHeartbeats 400000 in
theorem fits_true (a b : Option Addr) (n c k d : Nat) (w : World) (hn : n ≤ 72) (hk : 4 ≤ k) (hk2 : k ≤ 6) :
    Calls Tryd.prog 4 #[.slice a n c, .int .i64 (k : Nat), .slice b 16 d] w fun e w' => e = .returned (.bool true) ∧ w = w' := by
  have d1 : decide ((n : Int) ≤ 72) = true := by simp; omega
  have d2 : decide (4 ≤ (k : Int)) = true := by simp; omega
  have d3 : decide ((k : Int) ≤ 6) = true := by simp; omega
  go_enter Tryd.func4, Tryd.ntmps4
  go_wp2_with fail
  go_ret
  exact ⟨rfl, rfl⟩

set_option maxHeartbeats 400000 in
theorem fits_false (a b : Option Addr) (n c m d : Nat) (x : Int) (w : World) (h : 72 < n ∨ x < 4 ∨ 6 < x ∨ m ≠ 16) :
    Calls Tryd.prog 4 #[.slice a n c, .int .i64 x, .slice b m d] w fun e w' => e = .returned (.bool false) ∧ w = w' := by
  by_cases h1 : n ≤ 72
  · have d1 : decide ((n : Int) ≤ 72) = true := by simp; omega
    by_cases h2 : 4 ≤ x
    · have d2 : decide (4 ≤ x) = true := by simp; omega
      by_cases h3 : x ≤ 6
      · have d3 : decide (x ≤ 6) = true := by simp; omega
        have d4 : ((m : Int) == 16) = false := by rw [beq_eq_false_iff_ne]; omega
        clear h
        go_enter Tryd.func4, Tryd.ntmps4
        go_wp2_with fail
        go_ret
        exact ⟨rfl, rfl⟩
      · have d3 : decide (x ≤ 6) = false := by simp; omega
        clear h
        go_enter Tryd.func4, Tryd.ntmps4
        go_wp2_with fail
        go_ret
        exact ⟨rfl, rfl⟩
    · have d2 : decide (4 ≤ x) = false := by simp; omega
      clear h
      go_enter Tryd.func4, Tryd.ntmps4
      go_wp2_with fail
      go_ret
      exact ⟨rfl, rfl⟩
  · have d1 : decide ((n : Int) ≤ 72) = false := by simp; omega
    clear h
    go_enter Tryd.func4, Tryd.ntmps4
    go_wp2_with fail
    go_ret
    exact ⟨rfl, rfl⟩

end Go.Proofs.YthmjkcnmmlemgaaDoor
